import JvmDerived
import JvmDerived.Pilot.@@N@@Statement
import JvmDerived.Pilot.@@N@@Code
set_option linter.unusedVariables false
set_option linter.unusedSimpArgs false
namespace Jvm.OwnW
open Sem ClassFile Op Lib Jvm.Free Jvm.Stand Jvm.LawKit Jvm.RoadKit
/-- what stays the same all through one invocation -/
abbrev Ctx : Type := Program × Env × State × MethodId × Array Value × List Frame × Method × Code
abbrev Ctx.p (C : Ctx) : Program := C.1
abbrev Ctx.e (C : Ctx) : Env := C.2.1
abbrev Ctx.s (C : Ctx) : State := C.2.2.1
abbrev Ctx.m (C : Ctx) : MethodId := C.2.2.2.1
abbrev Ctx.args (C : Ctx) : Array Value := C.2.2.2.2.1
abbrev Ctx.below (C : Ctx) : List Frame := C.2.2.2.2.2.1
abbrev Ctx.meth (C : Ctx) : Method := C.2.2.2.2.2.2.1
abbrev Ctx.c (C : Ctx) : Code := C.2.2.2.2.2.2.2
/-- each place of the list lies in a cell of ws, or in one made since -/
def Wok (b : Nat) (ws : List Addr) (L : List Loc) : Prop := ∀ y ∈ L, y.base ∈ ws ∨ b ≤ y.base
theorem Wok.nil (b : Nat) (ws : List Addr) : Wok b ws [] := fun _ q => nomatch q
theorem Wok.app {b : Nat} {ws : List Addr} {L L' : List Loc} (N : Wok b ws L) (N' : Wok b ws L') : Wok b ws (L ++ L') := fun y q => (List.mem_append.mp q).elim (N y) (N' y)
theorem Wok.snoc {b : Nat} {ws : List Addr} {L : List Loc} {a : Addr} {sl : Nat} (N : Wok b ws L) (q : a ∈ ws ∨ b ≤ a) : Wok b ws (L ++ [⟨a, sl⟩]) := N.app fun y hy => by cases List.mem_singleton.mp hy; exact q
theorem keep_of_same {s t : State} {L : List Loc} {ws : List Addr} {k n : Nat} (h : s.sameButNew t L k n) (N : Wok s.heap.size ws L) : Keep s.heap t.heap ws := by
  obtain ⟨-, h2, -, -, -, h6⟩ := h
  refine ⟨h2, fun x c hx hn => ?_, fun x c hx => ?_⟩
  · obtain ⟨c', q1, q2, q3, q4⟩ := h6 x c hx
    have hlt := (Array.getElem?_eq_some_iff.mp hx).1
    have : c'.slots = c.slots := Array.ext_getElem? fun i => q4 i fun hm => (N _ hm).elim hn fun z => absurd hlt (Nat.not_lt.mpr z)
    rw [q1, q2, this]
  · obtain ⟨c', q1, q2, q3, q4⟩ := h6 x c hx
    exact ⟨c', q1, by rw [q2], by rw [q2], q3⟩
theorem eq_of_same {s t : State} {L : List Loc} {n : Nat} (h : s.sameButNew t L 0 n) (N : Wok s.heap.size [] L) : t.heap = s.heap := by
  have K := keep_of_same h N
  obtain ⟨-, h2, h3, -⟩ := h
  refine Array.ext_getElem? fun i => ?_
  cases hi : s.heap[i]? with
  | some c => exact K.2.1 i c hi (fun q => nomatch q)
  | none =>
    rw [Array.getElem?_eq_none_iff] at hi ⊢
    omega
/-- where the run stands: the invocation's state T with heap h; of what is older than the invocation only ws has been written -/
def On (l : Launch) (Z : State) (ws : List Addr) (R : Room) (own nm : String) (bytes : ByteArray) (maxL : Nat) (ret : Option FieldType) (C : Ctx) (T : State) (h : Heap) (cells slots : Nat) : Prop :=
  (C.p.tables.exec = Jvm.exec ∧ Z.Warmed39 C.s.vm ∧ C.c.code = bytes ∧ C.c.maxLocals = maxL ∧ C.s.vm.findClass own = some C.m.cls ∧ C.meth.name = nm ∧ C.meth.sig.returnType = ret ∧ C.meth.locks = false) ∧
  (∃ locs, Stand C.p l C.e R C.s C.m C.args C.below C.meth C.c T locs cells slots ∧ Wok C.s.heap.size ws locs) ∧ T.heap = h
def Post (ws : List Addr) (rc : Nat) (h0 : Heap) (Q : Option Value → Heap → Prop) (v : Option Value) (h : Heap) (L : List Loc) : Prop := Wok h0.size ws L ∧ Keep h0 h ws ∧ (rc = 0 → ws = [] → h = h0) ∧ Q v h
/-- from the state A the invocation comes to its end, with Q of what it returns and of the heap it leaves -/
def Go (C : Ctx) (ws : List Addr) (Q : Option Value → Heap → Prop) (k n : Nat) (A : State) : Prop :=
  ∃ U o, Steps C.p.tables C.e C.below A U ∧ U.status = .running ∧ Ended U C.below o ∧ ∃ v L, o = .returned v ∧ Post ws k C.s.heap Q v U.heap L ∧ FrameEnd C.s o U L k n
def Met (l : Launch) (Z : State) (y : MethodName) (bytes : ByteArray) (maxL : Nat) (ret : Option FieldType) (wds : List Cond) (rm : Room) (as' : Array Value) (ws : List Addr) (h0 : Heap) (Q : Option Value → Heap → Prop) : Prop :=
  MetFree l y (head1 (Cond.code y bytes maxL ret :: wds) rm) (fun a U => a = as' ∧ Z.Warmed39 U.vm ∧ U.heap = h0) (fun _ _ _ _ _ => True) (fun _ U o U' => ∃ v L, o = .returned v ∧ Post ws rm.cells h0 Q v U'.heap L ∧ FrameEnd U o U' L rm.cells rm.slots)
theorem Met.mk {l : Launch} {Z : State} {y : MethodName} {bytes : ByteArray} {maxL : Nat} {ret : Option FieldType} {wds : List Cond} {rm : Room} {as' : Array Value} {ws : List Addr} {h0 : Heap} {Q : Option Value → Heap → Prop} {Ls : Array Slot}
    (hp : plainFor y = true) (ef : ∀ m, entryFrame m as' maxL = mkF m 0 Ls [])
    (H : ∀ (C : Ctx) (T : State), C.s.heap = h0 → On l Z ws rm y.cls y.name bytes maxL ret C T h0 0 0 → Go C ws Q rm.cells rm.slots (T.setTop (mkF C.m 0 Ls []))) : Met l Z y bytes maxL ret wds rm as' ws h0 Q := by
  refine MetFree.of_bodySF hp hisR ?_
  intro p e s m args below meth c s₁ Bd hml0 hP hK
  obtain ⟨rfl, hZ, hh⟩ := hP
  have e0 : s₁.heap = h0 := by rw [← hh, Bd.state]; rfl
  have := H (p, e, s, m, args, below, meth, c) s₁ hh ⟨⟨Bd.exec, hZ, Bd.bytes, hml0, findClass_of_methodNamed Bd.named, (name_of_methodNamed Bd.named Bd.method).1, Bd.returns, Bd.notSynchronized⟩, ⟨[], Stand.of_body Bd, Wok.nil _ _⟩, e0⟩
  obtain ⟨U, o, h1, h2, h3, v, L, h4, h5, h6⟩ := this
  refine ⟨U, o, castTop (ef m) h1, h2, h3, v, L, h4, ?_, h6⟩
  rw [← hh]; exact h5
theorem Go.of {C : Ctx} {ws : List Addr} {Q : Option Value → Heap → Prop} {k n : Nat} {A B : State} (g : Go C ws Q k n B) (h : ∀ t, Steps C.p.tables C.e C.below B t → Steps C.p.tables C.e C.below A t) : Go C ws Q k n A := by
  obtain ⟨U, o, h1, r⟩ := g; exact ⟨U, o, h _ h1, r⟩
theorem Go.via {C : Ctx} {ws : List Addr} {Q : Option Value → Heap → Prop} {k n : Nat} {A B : State} (g : Go C ws Q k n B) (h : Steps C.p.tables C.e C.below A B) : Go C ws Q k n A := by
  obtain ⟨U, o, h1, r⟩ := g; exact ⟨U, o, h.trans h1, r⟩
section Steps
variable {l : Launch} {Z : State} {a0 : Array Value} {ws : List Addr} {R : Room} {own nm : String} {bytes : ByteArray} {maxL : Nat} {ret : Option FieldType} {C : Ctx} {T : State} {h : Heap} {cells slots k n : Nat} {Q : Option Value → Heap → Prop} {pc q : Nat} {Ls L' : Array Slot} {st : List Value}
theorem On.size (O : On l Z ws R own nm bytes maxL ret C T h cells slots) : C.s.heap.size ≤ h.size := by
  obtain ⟨-, ⟨_, X, -⟩, rfl⟩ := O; exact X.same.2.1
theorem On.kept (O : On l Z ws R own nm bytes maxL ret C T h cells slots) : Keep C.s.heap h ws := by
  obtain ⟨-, ⟨_, X, N⟩, rfl⟩ := O; exact keep_of_same (t := T.setVm C.s.vm) X.same N
theorem fin (O : On l Z ws R own nm bytes maxL ret C T h cells slots) {v : Option Value} (hv : ret = none → v = none) (hk : cells ≤ k) (hn : slots ≤ n) (hQ : Q v h)
    (stp : ∀ X : State, ∀ fs, (∀ (f : JFrame) (acts : List Action), f.method = C.m → f.locked = none → f.entered = [] → (doReturn C.e (T.setTop f) acts v).1 = T.setFrames fs) → X = T.setFrames fs → Steps C.p.tables C.e C.below (T.setTop (mkF C.m pc Ls st)) X) : Go C ws Q k n (T.setTop (mkF C.m pc Ls st)) := by
  obtain ⟨⟨hx, hZ, -, -, -, -, hret, hlk⟩, ⟨L, X, N⟩, eT⟩ := O
  obtain ⟨fs, hr, hrun, hended, hW, hsame⟩ := X.leave (v := v) (fun q => hv (hret ▸ q)) hlk
  refine ⟨_, _, stp _ fs hr rfl, hrun, hended, v, L, rfl, ⟨N, ?_, ?_, ?_⟩, ⟨_, rfl⟩, hW, hsame.mono hk hn⟩
  · exact keep_of_same (t := T.setVm C.s.vm) X.same N
  · rintro rfl rfl
    exact eq_of_same (t := T.setVm C.s.vm) (X.same.mono hk (Nat.le_refl _)) N
  · show Q v T.heap; rw [eT]; exact hQ
theorem ret0 (O : On l Z ws R own nm bytes maxL none C T h cells slots) (hd : decode bytes pc = .ok (.return_, 1)) (hk : cells ≤ k) (hn : slots ≤ n) (hQ : Q none h) : Go C ws Q k n (T.setTop (mkF C.m pc Ls [])) := by
  refine fin O (fun _ => rfl) hk hn hQ ?_
  obtain ⟨⟨hx, hZ, rfl, -, -, -, hret, hlk⟩, ⟨L, X, N⟩, eT⟩ := O
  rintro _ fs hr rfl
  exact X.returnOut hx hret hd hr
theorem retV {t : FieldType} {w w' : Value} {i : Instr} {rest : List Value} (O : On l Z ws R own nm bytes maxL (some t) C T h cells slots) (hd : decode bytes pc = .ok (i, 1)) (hw : w' = w) (hnw : narrow t w = w)
    (hi : (i = .ireturn ∧ (t = .int ∨ t = .boolean ∨ t = .byte ∨ t = .char ∨ t = .short) ∧ ∃ z, w = .int z) ∨ (i = .lreturn ∧ t = .long ∧ ∃ z, w = .long z) ∨ (i = .dreturn ∧ t = .double ∧ ∃ z, w = .double z) ∨ (i = .freturn ∧ t = .float ∧ ∃ z, w = .float z) ∨ (i = .areturn ∧ t.isReference = true ∧ w.isRef = true))
    (hk : cells ≤ k) (hn : slots ≤ n) (hQ : Q (some w) h) : Go C ws Q k n (T.setTop (mkF C.m pc Ls (w' :: rest))) := by
  subst hw
  refine fin O (fun q => nomatch q) hk hn hQ ?_
  obtain ⟨⟨hx, hZ, rfl, -, -, -, hret, hlk⟩, ⟨L, X, N⟩, eT⟩ := O
  rintro _ fs hr rfl
  exact retOut X hx hret hnw hi hd hr
theorem retI {z z' : Int32} {rest : List Value} (O : On l Z ws R own nm bytes maxL (some .int) C T h cells slots) (hd : decode bytes pc = .ok (.ireturn, 1)) (hz : z = z') (hk : cells ≤ k) (hn : slots ≤ n) (hQ : Q (some (.int z')) h) : Go C ws Q k n (T.setTop (mkF C.m pc Ls (.int z :: rest))) :=
  retV O hd (congrArg Value.int hz) rfl (Or.inl ⟨rfl, Or.inl rfl, _, rfl⟩) hk hn hQ
theorem retB {z z' : Int32} {rest : List Value} (O : On l Z ws R own nm bytes maxL (some .boolean) C T h cells slots) (hd : decode bytes pc = .ok (.ireturn, 1)) (hz : z = z') (h01 : z' = 0 ∨ z' = 1) (hk : cells ≤ k) (hn : slots ≤ n) (hQ : Q (some (.int z')) h) : Go C ws Q k n (T.setTop (mkF C.m pc Ls (.int z :: rest))) :=
  retV O hd (congrArg Value.int hz) (by rcases h01 with rfl | rfl <;> rfl) (Or.inl ⟨rfl, Or.inr (Or.inl rfl), _, rfl⟩) hk hn hQ
theorem retY {z z' : Int32} {rest : List Value} (O : On l Z ws R own nm bytes maxL (some .byte) C T h cells slots) (hd : decode bytes pc = .ok (.ireturn, 1)) (hz : z = z') (hb : z'.toInt8.toInt32 = z') (hk : cells ≤ k) (hn : slots ≤ n) (hQ : Q (some (.int z')) h) : Go C ws Q k n (T.setTop (mkF C.m pc Ls (.int z :: rest))) :=
  retV O hd (congrArg Value.int hz) (congrArg Value.int hb) (Or.inl ⟨rfl, Or.inr (Or.inr (Or.inl rfl)), _, rfl⟩) hk hn hQ
theorem retL {z z' : Int64} {rest : List Value} (O : On l Z ws R own nm bytes maxL (some .long) C T h cells slots) (hd : decode bytes pc = .ok (.lreturn, 1)) (hz : z = z') (hk : cells ≤ k) (hn : slots ≤ n) (hQ : Q (some (.long z')) h) : Go C ws Q k n (T.setTop (mkF C.m pc Ls (.long z :: rest))) :=
  retV O hd (congrArg Value.long hz) rfl (Or.inr (Or.inl ⟨rfl, rfl, _, rfl⟩)) hk hn hQ
theorem retA {t : FieldType} {w : Value} {rest : List Value} (O : On l Z ws R own nm bytes maxL (some t) C T h cells slots) (hd : decode bytes pc = .ok (.areturn, 1)) (ht : t.isReference = true) (hw : w.isRef = true) (hnw : narrow t w = w) (hk : cells ≤ k) (hn : slots ≤ n) (hQ : Q (some w) h) : Go C ws Q k n (T.setTop (mkF C.m pc Ls (w :: rest))) :=
  retV O hd rfl hnw (Or.inr (Or.inr (Or.inr (Or.inr ⟨rfl, ht, hw⟩)))) hk hn hQ
theorem iload (O : On l Z ws R own nm bytes maxL ret C T h cells slots) {i : Nat} {v : Int32} (hd : decode bytes pc = .ok (.iload i, 2)) (hl : Ls[i]? = some (.val (.int v))) (hq : pc + 2 = q)
    (K : Go C ws Q k n (T.setTop (mkF C.m q Ls (.int v :: st)))) : Go C ws Q k n (T.setTop (mkF C.m pc Ls (st))) := by
  obtain ⟨⟨hx, -, rfl, -⟩, ⟨_, X, -⟩, -⟩ := O; subst hq
  exact K.of fun _ kk => XS.iload X.here hx rfl hd hl kk
theorem iloadN (O : On l Z ws R own nm bytes maxL ret C T h cells slots) {i : Fin 4} {v : Int32} (hd : decode bytes pc = .ok (.iload_n i, 1)) (hl : Ls[i.val]? = some (.val (.int v))) (hq : pc + 1 = q)
    (K : Go C ws Q k n (T.setTop (mkF C.m q Ls (.int v :: st)))) : Go C ws Q k n (T.setTop (mkF C.m pc Ls (st))) := by
  obtain ⟨⟨hx, -, rfl, -⟩, ⟨_, X, -⟩, -⟩ := O; subst hq
  exact K.of fun _ kk => XS.iloadN X.here hx rfl hd hl kk
theorem lload (O : On l Z ws R own nm bytes maxL ret C T h cells slots) {i : Nat} {v : Int64} (hd : decode bytes pc = .ok (.lload i, 2)) (hl : Ls[i]? = some (.val (.long v))) (hq : pc + 2 = q)
    (K : Go C ws Q k n (T.setTop (mkF C.m q Ls (.long v :: st)))) : Go C ws Q k n (T.setTop (mkF C.m pc Ls (st))) := by
  obtain ⟨⟨hx, -, rfl, -⟩, ⟨_, X, -⟩, -⟩ := O; subst hq
  exact K.of fun _ kk => XS.lload X.here hx rfl hd hl kk
theorem lloadN (O : On l Z ws R own nm bytes maxL ret C T h cells slots) {i : Fin 4} {v : Int64} (hd : decode bytes pc = .ok (.lload_n i, 1)) (hl : Ls[i.val]? = some (.val (.long v))) (hq : pc + 1 = q)
    (K : Go C ws Q k n (T.setTop (mkF C.m q Ls (.long v :: st)))) : Go C ws Q k n (T.setTop (mkF C.m pc Ls (st))) := by
  obtain ⟨⟨hx, -, rfl, -⟩, ⟨_, X, -⟩, -⟩ := O; subst hq
  exact K.of fun _ kk => XS.lloadN X.here hx rfl hd hl kk
theorem aload (O : On l Z ws R own nm bytes maxL ret C T h cells slots) {i : Nat} {v : Value} (hd : decode bytes pc = .ok (.aload i, 2)) (hl : Ls[i]? = some (.val v)) (hv : v.isRef = true) (hq : pc + 2 = q)
    (K : Go C ws Q k n (T.setTop (mkF C.m q Ls (v :: st)))) : Go C ws Q k n (T.setTop (mkF C.m pc Ls (st))) := by
  obtain ⟨⟨hx, -, rfl, -⟩, ⟨_, X, -⟩, -⟩ := O; subst hq
  exact K.of fun _ kk => XS.aload X.here hx rfl hd hl hv kk
theorem aloadN (O : On l Z ws R own nm bytes maxL ret C T h cells slots) {i : Fin 4} {v : Value} (hd : decode bytes pc = .ok (.aload_n i, 1)) (hl : Ls[i.val]? = some (.val v)) (hv : v.isRef = true) (hq : pc + 1 = q)
    (K : Go C ws Q k n (T.setTop (mkF C.m q Ls (v :: st)))) : Go C ws Q k n (T.setTop (mkF C.m pc Ls (st))) := by
  obtain ⟨⟨hx, -, rfl, -⟩, ⟨_, X, -⟩, -⟩ := O; subst hq
  exact K.of fun _ kk => XS.aloadN X.here hx rfl hd hl hv kk
theorem istore (O : On l Z ws R own nm bytes maxL ret C T h cells slots) {i : Nat} {v : Int32} (hd : decode bytes pc = .ok (.istore i, 2)) (hl : storeLocals Ls i (.int v) = some L') (hq : pc + 2 = q)
    (K : Go C ws Q k n (T.setTop (mkF C.m q L' (st)))) : Go C ws Q k n (T.setTop (mkF C.m pc Ls (.int v :: st))) := by
  obtain ⟨⟨hx, -, rfl, -⟩, ⟨_, X, -⟩, -⟩ := O; subst hq
  exact K.of fun _ kk => XS.istore X.here hx rfl hd rfl hl kk
theorem istoreN (O : On l Z ws R own nm bytes maxL ret C T h cells slots) {i : Fin 4} {v : Int32} (hd : decode bytes pc = .ok (.istore_n i, 1)) (hl : storeLocals Ls i.val (.int v) = some L') (hq : pc + 1 = q)
    (K : Go C ws Q k n (T.setTop (mkF C.m q L' (st)))) : Go C ws Q k n (T.setTop (mkF C.m pc Ls (.int v :: st))) := by
  obtain ⟨⟨hx, -, rfl, -⟩, ⟨_, X, -⟩, -⟩ := O; subst hq
  exact K.of fun _ kk => XS.istoreN X.here hx rfl hd rfl hl kk
theorem lstore (O : On l Z ws R own nm bytes maxL ret C T h cells slots) {i : Nat} {v : Int64} (hd : decode bytes pc = .ok (.lstore i, 2)) (hl : storeLocals Ls i (.long v) = some L') (hq : pc + 2 = q)
    (K : Go C ws Q k n (T.setTop (mkF C.m q L' (st)))) : Go C ws Q k n (T.setTop (mkF C.m pc Ls (.long v :: st))) := by
  obtain ⟨⟨hx, -, rfl, -⟩, ⟨_, X, -⟩, -⟩ := O; subst hq
  exact K.of fun _ kk => XS.lstore X.here hx rfl hd rfl hl kk
theorem lstoreN (O : On l Z ws R own nm bytes maxL ret C T h cells slots) {i : Fin 4} {v : Int64} (hd : decode bytes pc = .ok (.lstore_n i, 1)) (hl : storeLocals Ls i.val (.long v) = some L') (hq : pc + 1 = q)
    (K : Go C ws Q k n (T.setTop (mkF C.m q L' (st)))) : Go C ws Q k n (T.setTop (mkF C.m pc Ls (.long v :: st))) := by
  obtain ⟨⟨hx, -, rfl, -⟩, ⟨_, X, -⟩, -⟩ := O; subst hq
  exact K.of fun _ kk => XS.lstoreN X.here hx rfl hd rfl hl kk
theorem astore (O : On l Z ws R own nm bytes maxL ret C T h cells slots) {i : Nat} {v : Value} (hd : decode bytes pc = .ok (.astore i, 2)) (hv : v.isRef = true) (hl : storeLocals Ls i v = some L') (hq : pc + 2 = q)
    (K : Go C ws Q k n (T.setTop (mkF C.m q L' (st)))) : Go C ws Q k n (T.setTop (mkF C.m pc Ls (v :: st))) := by
  obtain ⟨⟨hx, -, rfl, -⟩, ⟨_, X, -⟩, -⟩ := O; subst hq
  exact K.of fun _ kk => XS.astore X.here hx rfl hd rfl hv hl kk
theorem astoreN (O : On l Z ws R own nm bytes maxL ret C T h cells slots) {i : Fin 4} {v : Value} (hd : decode bytes pc = .ok (.astore_n i, 1)) (hv : v.isRef = true) (hl : storeLocals Ls i.val v = some L') (hq : pc + 1 = q)
    (K : Go C ws Q k n (T.setTop (mkF C.m q L' (st)))) : Go C ws Q k n (T.setTop (mkF C.m pc Ls (v :: st))) := by
  obtain ⟨⟨hx, -, rfl, -⟩, ⟨_, X, -⟩, -⟩ := O; subst hq
  exact K.of fun _ kk => XS.astoreN X.here hx rfl hd rfl hv hl kk
theorem iconst (O : On l Z ws R own nm bytes maxL ret C T h cells slots) {i : Int} {r : Int32} (hd : decode bytes pc = .ok (.iconst i, 1)) (hr : Int32.ofInt i = r) (hq : pc + 1 = q)
    (K : Go C ws Q k n (T.setTop (mkF C.m q Ls (.int r :: st)))) : Go C ws Q k n (T.setTop (mkF C.m pc Ls (st))) := by
  obtain ⟨⟨hx, -, rfl, -⟩, ⟨_, X, -⟩, -⟩ := O; subst hq hr
  exact K.of fun _ kk => XS.iconst X.here hx rfl hd kk
theorem bipush (O : On l Z ws R own nm bytes maxL ret C T h cells slots) {i : Int} {r : Int32} (hd : decode bytes pc = .ok (.bipush i, 2)) (hr : (Int8.ofInt i).toInt32 = r) (hq : pc + 2 = q)
    (K : Go C ws Q k n (T.setTop (mkF C.m q Ls (.int r :: st)))) : Go C ws Q k n (T.setTop (mkF C.m pc Ls (st))) := by
  obtain ⟨⟨hx, -, rfl, -⟩, ⟨_, X, -⟩, -⟩ := O; subst hq hr
  exact K.of fun _ kk => XS.bipush X.here hx rfl hd kk
theorem sipush (O : On l Z ws R own nm bytes maxL ret C T h cells slots) {i : Int} {r : Int32} (hd : decode bytes pc = .ok (.sipush i, 3)) (hr : (Int16.ofInt i).toInt32 = r) (hq : pc + 3 = q)
    (K : Go C ws Q k n (T.setTop (mkF C.m q Ls (.int r :: st)))) : Go C ws Q k n (T.setTop (mkF C.m pc Ls (st))) := by
  obtain ⟨⟨hx, -, rfl, -⟩, ⟨_, X, -⟩, -⟩ := O; subst hq hr
  exact K.of fun _ kk => XS.sipush X.here hx rfl hd kk
theorem lconst (O : On l Z ws R own nm bytes maxL ret C T h cells slots) {i : Fin 2} {r : Int64} (hd : decode bytes pc = .ok (.lconst i, 1)) (hr : Int64.ofNat i = r) (hq : pc + 1 = q)
    (K : Go C ws Q k n (T.setTop (mkF C.m q Ls (.long r :: st)))) : Go C ws Q k n (T.setTop (mkF C.m pc Ls (st))) := by
  obtain ⟨⟨hx, -, rfl, -⟩, ⟨_, X, -⟩, -⟩ := O; subst hq hr
  exact K.of fun _ kk => XS.lconst X.here hx rfl hd kk
theorem aconst_null (O : On l Z ws R own nm bytes maxL ret C T h cells slots)  (hd : decode bytes pc = .ok (.aconst_null, 1))  (hq : pc + 1 = q)
    (K : Go C ws Q k n (T.setTop (mkF C.m q Ls (.null :: st)))) : Go C ws Q k n (T.setTop (mkF C.m pc Ls (st))) := by
  obtain ⟨⟨hx, -, rfl, -⟩, ⟨_, X, -⟩, -⟩ := O; subst hq
  exact K.of fun _ kk => XS.aconstNull X.here hx rfl hd kk
theorem iadd (O : On l Z ws R own nm bytes maxL ret C T h cells slots) {x y r : Int32} (hd : decode bytes pc = .ok (.iadd, 1)) (hr : x + y = r) (hq : pc + 1 = q)
    (K : Go C ws Q k n (T.setTop (mkF C.m q Ls (.int r :: st)))) : Go C ws Q k n (T.setTop (mkF C.m pc Ls (.int y :: .int x :: st))) := by
  obtain ⟨⟨hx, -, rfl, -⟩, ⟨_, X, -⟩, -⟩ := O; subst hq hr
  exact K.of fun _ kk => XS.iadd X.here hx rfl hd rfl kk
theorem isub (O : On l Z ws R own nm bytes maxL ret C T h cells slots) {x y r : Int32} (hd : decode bytes pc = .ok (.isub, 1)) (hr : x - y = r) (hq : pc + 1 = q)
    (K : Go C ws Q k n (T.setTop (mkF C.m q Ls (.int r :: st)))) : Go C ws Q k n (T.setTop (mkF C.m pc Ls (.int y :: .int x :: st))) := by
  obtain ⟨⟨hx, -, rfl, -⟩, ⟨_, X, -⟩, -⟩ := O; subst hq hr
  exact K.of fun _ kk => XS.isub X.here hx rfl hd rfl kk
theorem imul (O : On l Z ws R own nm bytes maxL ret C T h cells slots) {x y r : Int32} (hd : decode bytes pc = .ok (.imul, 1)) (hr : x * y = r) (hq : pc + 1 = q)
    (K : Go C ws Q k n (T.setTop (mkF C.m q Ls (.int r :: st)))) : Go C ws Q k n (T.setTop (mkF C.m pc Ls (.int y :: .int x :: st))) := by
  obtain ⟨⟨hx, -, rfl, -⟩, ⟨_, X, -⟩, -⟩ := O; subst hq hr
  exact K.of fun _ kk => XS.imul X.here hx rfl hd rfl kk
theorem iand (O : On l Z ws R own nm bytes maxL ret C T h cells slots) {x y r : Int32} (hd : decode bytes pc = .ok (.iand, 1)) (hr : x &&& y = r) (hq : pc + 1 = q)
    (K : Go C ws Q k n (T.setTop (mkF C.m q Ls (.int r :: st)))) : Go C ws Q k n (T.setTop (mkF C.m pc Ls (.int y :: .int x :: st))) := by
  obtain ⟨⟨hx, -, rfl, -⟩, ⟨_, X, -⟩, -⟩ := O; subst hq hr
  exact K.of fun _ kk => XS.iand X.here hx rfl hd rfl kk
theorem ior (O : On l Z ws R own nm bytes maxL ret C T h cells slots) {x y r : Int32} (hd : decode bytes pc = .ok (.ior, 1)) (hr : x ||| y = r) (hq : pc + 1 = q)
    (K : Go C ws Q k n (T.setTop (mkF C.m q Ls (.int r :: st)))) : Go C ws Q k n (T.setTop (mkF C.m pc Ls (.int y :: .int x :: st))) := by
  obtain ⟨⟨hx, -, rfl, -⟩, ⟨_, X, -⟩, -⟩ := O; subst hq hr
  exact K.of fun _ kk => XS.ior X.here hx rfl hd rfl kk
theorem ixor (O : On l Z ws R own nm bytes maxL ret C T h cells slots) {x y r : Int32} (hd : decode bytes pc = .ok (.ixor, 1)) (hr : x ^^^ y = r) (hq : pc + 1 = q)
    (K : Go C ws Q k n (T.setTop (mkF C.m q Ls (.int r :: st)))) : Go C ws Q k n (T.setTop (mkF C.m pc Ls (.int y :: .int x :: st))) := by
  obtain ⟨⟨hx, -, rfl, -⟩, ⟨_, X, -⟩, -⟩ := O; subst hq hr
  exact K.of fun _ kk => XS.ixor X.here hx rfl hd rfl kk
theorem ishl (O : On l Z ws R own nm bytes maxL ret C T h cells slots) {x y r : Int32} (hd : decode bytes pc = .ok (.ishl, 1)) (hr : x <<< (y &&& 31) = r) (hq : pc + 1 = q)
    (K : Go C ws Q k n (T.setTop (mkF C.m q Ls (.int r :: st)))) : Go C ws Q k n (T.setTop (mkF C.m pc Ls (.int y :: .int x :: st))) := by
  obtain ⟨⟨hx, -, rfl, -⟩, ⟨_, X, -⟩, -⟩ := O; subst hq hr
  exact K.of fun _ kk => XS.ishl X.here hx rfl hd rfl kk
theorem ishr (O : On l Z ws R own nm bytes maxL ret C T h cells slots) {x y r : Int32} (hd : decode bytes pc = .ok (.ishr, 1)) (hr : x >>> (y &&& 31) = r) (hq : pc + 1 = q)
    (K : Go C ws Q k n (T.setTop (mkF C.m q Ls (.int r :: st)))) : Go C ws Q k n (T.setTop (mkF C.m pc Ls (.int y :: .int x :: st))) := by
  obtain ⟨⟨hx, -, rfl, -⟩, ⟨_, X, -⟩, -⟩ := O; subst hq hr
  exact K.of fun _ kk => XS.ishr X.here hx rfl hd rfl kk
theorem iushr (O : On l Z ws R own nm bytes maxL ret C T h cells slots) {x y r : Int32} (hd : decode bytes pc = .ok (.iushr, 1)) (hr : (x.toUInt32 >>> (y &&& 31).toUInt32).toInt32 = r) (hq : pc + 1 = q)
    (K : Go C ws Q k n (T.setTop (mkF C.m q Ls (.int r :: st)))) : Go C ws Q k n (T.setTop (mkF C.m pc Ls (.int y :: .int x :: st))) := by
  obtain ⟨⟨hx, -, rfl, -⟩, ⟨_, X, -⟩, -⟩ := O; subst hq hr
  exact K.of fun _ kk => XS.iushr X.here hx rfl hd rfl kk
theorem idiv (O : On l Z ws R own nm bytes maxL ret C T h cells slots) {x y r : Int32} (hd : decode bytes pc = .ok (.idiv, 1)) (hy : y ≠ 0) (hr : x / y = r) (hq : pc + 1 = q)
    (K : Go C ws Q k n (T.setTop (mkF C.m q Ls (.int r :: st)))) : Go C ws Q k n (T.setTop (mkF C.m pc Ls (.int y :: .int x :: st))) := by
  obtain ⟨⟨hx, -, rfl, -⟩, ⟨_, X, -⟩, -⟩ := O; subst hq hr
  exact K.of fun _ kk => XS.idiv X.here hx rfl hd rfl hy kk
theorem irem (O : On l Z ws R own nm bytes maxL ret C T h cells slots) {x y r : Int32} (hd : decode bytes pc = .ok (.irem, 1)) (hy : y ≠ 0) (hr : x % y = r) (hq : pc + 1 = q)
    (K : Go C ws Q k n (T.setTop (mkF C.m q Ls (.int r :: st)))) : Go C ws Q k n (T.setTop (mkF C.m pc Ls (.int y :: .int x :: st))) := by
  obtain ⟨⟨hx, -, rfl, -⟩, ⟨_, X, -⟩, -⟩ := O; subst hq hr; rw [← irem_eq_mod] at K
  exact K.of fun _ kk => XS.irem X.here hx rfl hd rfl hy kk
theorem ladd (O : On l Z ws R own nm bytes maxL ret C T h cells slots) {x y r : Int64} (hd : decode bytes pc = .ok (.ladd, 1)) (hr : x + y = r) (hq : pc + 1 = q)
    (K : Go C ws Q k n (T.setTop (mkF C.m q Ls (.long r :: st)))) : Go C ws Q k n (T.setTop (mkF C.m pc Ls (.long y :: .long x :: st))) := by
  obtain ⟨⟨hx, -, rfl, -⟩, ⟨_, X, -⟩, -⟩ := O; subst hq hr
  exact K.of fun _ kk => XS.ladd X.here hx rfl hd rfl kk
theorem lsub (O : On l Z ws R own nm bytes maxL ret C T h cells slots) {x y r : Int64} (hd : decode bytes pc = .ok (.lsub, 1)) (hr : x - y = r) (hq : pc + 1 = q)
    (K : Go C ws Q k n (T.setTop (mkF C.m q Ls (.long r :: st)))) : Go C ws Q k n (T.setTop (mkF C.m pc Ls (.long y :: .long x :: st))) := by
  obtain ⟨⟨hx, -, rfl, -⟩, ⟨_, X, -⟩, -⟩ := O; subst hq hr
  exact K.of fun _ kk => XS.lsub X.here hx rfl hd rfl kk
theorem lmul (O : On l Z ws R own nm bytes maxL ret C T h cells slots) {x y r : Int64} (hd : decode bytes pc = .ok (.lmul, 1)) (hr : x * y = r) (hq : pc + 1 = q)
    (K : Go C ws Q k n (T.setTop (mkF C.m q Ls (.long r :: st)))) : Go C ws Q k n (T.setTop (mkF C.m pc Ls (.long y :: .long x :: st))) := by
  obtain ⟨⟨hx, -, rfl, -⟩, ⟨_, X, -⟩, -⟩ := O; subst hq hr
  exact K.of fun _ kk => XS.lmul X.here hx rfl hd rfl kk
theorem land (O : On l Z ws R own nm bytes maxL ret C T h cells slots) {x y r : Int64} (hd : decode bytes pc = .ok (.land, 1)) (hr : x &&& y = r) (hq : pc + 1 = q)
    (K : Go C ws Q k n (T.setTop (mkF C.m q Ls (.long r :: st)))) : Go C ws Q k n (T.setTop (mkF C.m pc Ls (.long y :: .long x :: st))) := by
  obtain ⟨⟨hx, -, rfl, -⟩, ⟨_, X, -⟩, -⟩ := O; subst hq hr
  exact K.of fun _ kk => XS.land X.here hx rfl hd rfl kk
theorem lor (O : On l Z ws R own nm bytes maxL ret C T h cells slots) {x y r : Int64} (hd : decode bytes pc = .ok (.lor, 1)) (hr : x ||| y = r) (hq : pc + 1 = q)
    (K : Go C ws Q k n (T.setTop (mkF C.m q Ls (.long r :: st)))) : Go C ws Q k n (T.setTop (mkF C.m pc Ls (.long y :: .long x :: st))) := by
  obtain ⟨⟨hx, -, rfl, -⟩, ⟨_, X, -⟩, -⟩ := O; subst hq hr
  exact K.of fun _ kk => XS.lor X.here hx rfl hd rfl kk
theorem lxor (O : On l Z ws R own nm bytes maxL ret C T h cells slots) {x y r : Int64} (hd : decode bytes pc = .ok (.lxor, 1)) (hr : x ^^^ y = r) (hq : pc + 1 = q)
    (K : Go C ws Q k n (T.setTop (mkF C.m q Ls (.long r :: st)))) : Go C ws Q k n (T.setTop (mkF C.m pc Ls (.long y :: .long x :: st))) := by
  obtain ⟨⟨hx, -, rfl, -⟩, ⟨_, X, -⟩, -⟩ := O; subst hq hr
  exact K.of fun _ kk => XS.lxor X.here hx rfl hd rfl kk
theorem ldiv (O : On l Z ws R own nm bytes maxL ret C T h cells slots) {x y r : Int64} (hd : decode bytes pc = .ok (.ldiv, 1)) (hy : y ≠ 0) (hr : x / y = r) (hq : pc + 1 = q)
    (K : Go C ws Q k n (T.setTop (mkF C.m q Ls (.long r :: st)))) : Go C ws Q k n (T.setTop (mkF C.m pc Ls (.long y :: .long x :: st))) := by
  obtain ⟨⟨hx, -, rfl, -⟩, ⟨_, X, -⟩, -⟩ := O; subst hq hr
  exact K.of fun _ kk => XS.ldiv X.here hx rfl hd rfl hy kk
theorem lrem (O : On l Z ws R own nm bytes maxL ret C T h cells slots) {x y r : Int64} (hd : decode bytes pc = .ok (.lrem, 1)) (hy : y ≠ 0) (hr : x % y = r) (hq : pc + 1 = q)
    (K : Go C ws Q k n (T.setTop (mkF C.m q Ls (.long r :: st)))) : Go C ws Q k n (T.setTop (mkF C.m pc Ls (.long y :: .long x :: st))) := by
  obtain ⟨⟨hx, -, rfl, -⟩, ⟨_, X, -⟩, -⟩ := O; subst hq hr; rw [← lrem_mod] at K
  exact K.of fun _ kk => XS.lrem X.here hx rfl hd rfl hy kk
theorem lshl (O : On l Z ws R own nm bytes maxL ret C T h cells slots) {x r : Int64} {y : Int32} (hd : decode bytes pc = .ok (.lshl, 1)) (hr : x <<< (y &&& 0x3f).toInt64 = r) (hq : pc + 1 = q)
    (K : Go C ws Q k n (T.setTop (mkF C.m q Ls (.long r :: st)))) : Go C ws Q k n (T.setTop (mkF C.m pc Ls (.int y :: .long x :: st))) := by
  obtain ⟨⟨hx, -, rfl, -⟩, ⟨_, X, -⟩, -⟩ := O; subst hq hr
  exact K.of fun _ kk => XS.lshl X.here hx rfl hd rfl kk
theorem lshr (O : On l Z ws R own nm bytes maxL ret C T h cells slots) {x r : Int64} {y : Int32} (hd : decode bytes pc = .ok (.lshr, 1)) (hr : x >>> (y &&& 0x3f).toInt64 = r) (hq : pc + 1 = q)
    (K : Go C ws Q k n (T.setTop (mkF C.m q Ls (.long r :: st)))) : Go C ws Q k n (T.setTop (mkF C.m pc Ls (.int y :: .long x :: st))) := by
  obtain ⟨⟨hx, -, rfl, -⟩, ⟨_, X, -⟩, -⟩ := O; subst hq hr
  exact K.of fun _ kk => XS.lshr X.here hx rfl hd rfl kk
theorem lushr (O : On l Z ws R own nm bytes maxL ret C T h cells slots) {x r : Int64} {y : Int32} (hd : decode bytes pc = .ok (.lushr, 1)) (hr : (x.toUInt64 >>> (y &&& 0x3f).toInt64.toUInt64).toInt64 = r) (hq : pc + 1 = q)
    (K : Go C ws Q k n (T.setTop (mkF C.m q Ls (.long r :: st)))) : Go C ws Q k n (T.setTop (mkF C.m pc Ls (.int y :: .long x :: st))) := by
  obtain ⟨⟨hx, -, rfl, -⟩, ⟨_, X, -⟩, -⟩ := O; subst hq hr
  exact K.of fun _ kk => XS.lushr X.here hx rfl hd rfl kk
theorem ineg (O : On l Z ws R own nm bytes maxL ret C T h cells slots) {x : Int32} {r : Int32} (hd : decode bytes pc = .ok (.ineg, 1)) (hr : -x = r) (hq : pc + 1 = q)
    (K : Go C ws Q k n (T.setTop (mkF C.m q Ls (.int r :: st)))) : Go C ws Q k n (T.setTop (mkF C.m pc Ls (.int x :: st))) := by
  obtain ⟨⟨hx, -, rfl, -⟩, ⟨_, X, -⟩, -⟩ := O; subst hq hr
  exact K.of fun _ kk => XS.ineg X.here hx rfl hd rfl kk
theorem lneg (O : On l Z ws R own nm bytes maxL ret C T h cells slots) {x : Int64} {r : Int64} (hd : decode bytes pc = .ok (.lneg, 1)) (hr : -x = r) (hq : pc + 1 = q)
    (K : Go C ws Q k n (T.setTop (mkF C.m q Ls (.long r :: st)))) : Go C ws Q k n (T.setTop (mkF C.m pc Ls (.long x :: st))) := by
  obtain ⟨⟨hx, -, rfl, -⟩, ⟨_, X, -⟩, -⟩ := O; subst hq hr
  exact K.of fun _ kk => XS.lneg X.here hx rfl hd rfl kk
theorem i2l (O : On l Z ws R own nm bytes maxL ret C T h cells slots) {x : Int32} {r : Int64} (hd : decode bytes pc = .ok (.i2l, 1)) (hr : x.toInt64 = r) (hq : pc + 1 = q)
    (K : Go C ws Q k n (T.setTop (mkF C.m q Ls (.long r :: st)))) : Go C ws Q k n (T.setTop (mkF C.m pc Ls (.int x :: st))) := by
  obtain ⟨⟨hx, -, rfl, -⟩, ⟨_, X, -⟩, -⟩ := O; subst hq hr
  exact K.of fun _ kk => XS.i2l X.here hx rfl hd rfl kk
theorem l2i (O : On l Z ws R own nm bytes maxL ret C T h cells slots) {x : Int64} {r : Int32} (hd : decode bytes pc = .ok (.l2i, 1)) (hr : x.toInt32 = r) (hq : pc + 1 = q)
    (K : Go C ws Q k n (T.setTop (mkF C.m q Ls (.int r :: st)))) : Go C ws Q k n (T.setTop (mkF C.m pc Ls (.long x :: st))) := by
  obtain ⟨⟨hx, -, rfl, -⟩, ⟨_, X, -⟩, -⟩ := O; subst hq hr
  exact K.of fun _ kk => XS.l2i X.here hx rfl hd rfl kk
theorem i2b (O : On l Z ws R own nm bytes maxL ret C T h cells slots) {x : Int32} {r : Int32} (hd : decode bytes pc = .ok (.i2b, 1)) (hr : x.toInt8.toInt32 = r) (hq : pc + 1 = q)
    (K : Go C ws Q k n (T.setTop (mkF C.m q Ls (.int r :: st)))) : Go C ws Q k n (T.setTop (mkF C.m pc Ls (.int x :: st))) := by
  obtain ⟨⟨hx, -, rfl, -⟩, ⟨_, X, -⟩, -⟩ := O; subst hq hr
  exact K.of fun _ kk => XS.i2b X.here hx rfl hd rfl kk
theorem i2c (O : On l Z ws R own nm bytes maxL ret C T h cells slots) {x : Int32} {r : Int32} (hd : decode bytes pc = .ok (.i2c, 1)) (hr : x.toUInt32.toUInt16.toUInt32.toInt32 = r) (hq : pc + 1 = q)
    (K : Go C ws Q k n (T.setTop (mkF C.m q Ls (.int r :: st)))) : Go C ws Q k n (T.setTop (mkF C.m pc Ls (.int x :: st))) := by
  obtain ⟨⟨hx, -, rfl, -⟩, ⟨_, X, -⟩, -⟩ := O; subst hq hr
  exact K.of fun _ kk => XS.i2c X.here hx rfl hd rfl kk
theorem i2s (O : On l Z ws R own nm bytes maxL ret C T h cells slots) {x : Int32} {r : Int32} (hd : decode bytes pc = .ok (.i2s, 1)) (hr : x.toInt16.toInt32 = r) (hq : pc + 1 = q)
    (K : Go C ws Q k n (T.setTop (mkF C.m q Ls (.int r :: st)))) : Go C ws Q k n (T.setTop (mkF C.m pc Ls (.int x :: st))) := by
  obtain ⟨⟨hx, -, rfl, -⟩, ⟨_, X, -⟩, -⟩ := O; subst hq hr
  exact K.of fun _ kk => XS.i2s X.here hx rfl hd rfl kk
theorem lcmp (O : On l Z ws R own nm bytes maxL ret C T h cells slots) {x y : Int64} {r : Int32} (hd : decode bytes pc = .ok (.lcmp, 1)) (hr : lcmpW x y = r) (hq : pc + 1 = q)
    (K : Go C ws Q k n (T.setTop (mkF C.m q Ls (.int r :: st)))) : Go C ws Q k n (T.setTop (mkF C.m pc Ls (.long y :: .long x :: st))) := by
  obtain ⟨⟨hx, -, rfl, -⟩, ⟨_, X, -⟩, -⟩ := O; subst hq hr
  exact K.of fun _ kk => XS.lcmp X.here hx rfl hd rfl kk
theorem iinc (O : On l Z ws R own nm bytes maxL ret C T h cells slots) {i : Nat} {cst : Int} {x : Int32} (hd : decode bytes pc = .ok (.iinc i cst, 3)) (hl : Ls[i]? = some (.val (.int x))) (hl' : storeLocals Ls i (.int (x + Int32.ofInt cst)) = some L') (hq : pc + 3 = q)
    (K : Go C ws Q k n (T.setTop (mkF C.m q L' (st)))) : Go C ws Q k n (T.setTop (mkF C.m pc Ls (st))) := by
  obtain ⟨⟨hx, -, rfl, -⟩, ⟨_, X, -⟩, -⟩ := O; subst hq
  exact K.of fun _ kk => XS.iinc X.here hx rfl hd hl hl' kk
theorem dup (O : On l Z ws R own nm bytes maxL ret C T h cells slots) {v : Value} (hd : decode bytes pc = .ok (.dup, 1)) (hc : v.category = 1) (hq : pc + 1 = q)
    (K : Go C ws Q k n (T.setTop (mkF C.m q Ls (v :: v :: st)))) : Go C ws Q k n (T.setTop (mkF C.m pc Ls (v :: st))) := by
  obtain ⟨⟨hx, -, rfl, -⟩, ⟨_, X, -⟩, -⟩ := O; subst hq
  exact K.of fun _ kk => XS.dup X.here hx rfl hd rfl hc kk
theorem pop (O : On l Z ws R own nm bytes maxL ret C T h cells slots) {v : Value} (hd : decode bytes pc = .ok (.pop, 1)) (hc : v.category = 1) (hq : pc + 1 = q)
    (K : Go C ws Q k n (T.setTop (mkF C.m q Ls (st)))) : Go C ws Q k n (T.setTop (mkF C.m pc Ls (v :: st))) := by
  obtain ⟨⟨hx, -, rfl, -⟩, ⟨_, X, -⟩, -⟩ := O; subst hq
  exact K.of fun _ kk => XS.pop X.here hx rfl hd rfl hc kk
theorem dup_x1 (O : On l Z ws R own nm bytes maxL ret C T h cells slots) {v w : Value} (hd : decode bytes pc = .ok (.dup_x1, 1)) (hc : v.category = 1) (hc' : w.category = 1) (hq : pc + 1 = q)
    (K : Go C ws Q k n (T.setTop (mkF C.m q Ls (v :: w :: v :: st)))) : Go C ws Q k n (T.setTop (mkF C.m pc Ls (v :: w :: st))) := by
  obtain ⟨⟨hx, -, rfl, -⟩, ⟨_, X, -⟩, -⟩ := O; subst hq
  exact K.of fun _ kk => XS.dupX1 X.here hx rfl hd rfl hc hc' kk
theorem dup2 (O : On l Z ws R own nm bytes maxL ret C T h cells slots) {v w : Value} (hd : decode bytes pc = .ok (.dup2, 1)) (hc : v.category = 1) (hc' : w.category = 1) (hq : pc + 1 = q)
    (K : Go C ws Q k n (T.setTop (mkF C.m q Ls (v :: w :: v :: w :: st)))) : Go C ws Q k n (T.setTop (mkF C.m pc Ls (v :: w :: st))) := by
  obtain ⟨⟨hx, -, rfl, -⟩, ⟨_, X, -⟩, -⟩ := O; subst hq
  exact K.of fun _ kk => XT.dup2 X.here hx rfl hd rfl hc hc' kk
theorem dup2L (O : On l Z ws R own nm bytes maxL ret C T h cells slots) {v : Int64} (hd : decode bytes pc = .ok (.dup2, 1))  (hq : pc + 1 = q)
    (K : Go C ws Q k n (T.setTop (mkF C.m q Ls (.long v :: .long v :: st)))) : Go C ws Q k n (T.setTop (mkF C.m pc Ls (.long v :: st))) := by
  obtain ⟨⟨hx, -, rfl, -⟩, ⟨_, X, -⟩, -⟩ := O; subst hq
  exact K.of fun _ kk => XT.dup2L X.here hx rfl hd rfl kk
theorem goto (O : On l Z ws R own nm bytes maxL ret C T h cells slots)  {o : Int} (hd : decode bytes pc = .ok (.goto o, 3))  (ho : 0 ≤ (pc : Int) + o) (hq : ((pc : Int) + o).toNat = q)
    (K : Go C ws Q k n (T.setTop (mkF C.m q Ls st))) : Go C ws Q k n (T.setTop (mkF C.m pc Ls (st))) := by
  obtain ⟨⟨hx, -, rfl, -⟩, ⟨_, X, -⟩, -⟩ := O
  exact K.of fun _ kk => XS.goto X.here hx rfl (pc0 := pc) (pc' := q) rfl hd  ho hq kk
theorem ifYes (O : On l Z ws R own nm bytes maxL ret C T h cells slots) {cd : ClassFile.Cond} {x : Int32} {o : Int} (hd : decode bytes pc = .ok (.ifCond cd o, 3)) (hc : ifCond.holds cd x = true) (ho : 0 ≤ (pc : Int) + o) (hq : ((pc : Int) + o).toNat = q)
    (K : Go C ws Q k n (T.setTop (mkF C.m q Ls st))) : Go C ws Q k n (T.setTop (mkF C.m pc Ls (.int x :: st))) := by
  obtain ⟨⟨hx, -, rfl, -⟩, ⟨_, X, -⟩, -⟩ := O
  exact K.of fun _ kk => XS.ifYes X.here hx rfl (pc0 := pc) (pc' := q) rfl hd rfl hc ho hq kk
theorem icmpYes (O : On l Z ws R own nm bytes maxL ret C T h cells slots) {cd : ClassFile.Cond} {x y : Int32} {o : Int} (hd : decode bytes pc = .ok (.if_icmp cd o, 3)) (hc : if_icmp.holds cd x y = true) (ho : 0 ≤ (pc : Int) + o) (hq : ((pc : Int) + o).toNat = q)
    (K : Go C ws Q k n (T.setTop (mkF C.m q Ls st))) : Go C ws Q k n (T.setTop (mkF C.m pc Ls (.int y :: .int x :: st))) := by
  obtain ⟨⟨hx, -, rfl, -⟩, ⟨_, X, -⟩, -⟩ := O
  exact K.of fun _ kk => XS.icmpYes X.here hx rfl (pc0 := pc) (pc' := q) rfl hd rfl hc ho hq kk
theorem ifnullYes (O : On l Z ws R own nm bytes maxL ret C T h cells slots)  {o : Int} (hd : decode bytes pc = .ok (.ifnull o, 3))  (ho : 0 ≤ (pc : Int) + o) (hq : ((pc : Int) + o).toNat = q)
    (K : Go C ws Q k n (T.setTop (mkF C.m q Ls st))) : Go C ws Q k n (T.setTop (mkF C.m pc Ls (.null :: st))) := by
  obtain ⟨⟨hx, -, rfl, -⟩, ⟨_, X, -⟩, -⟩ := O
  exact K.of fun _ kk => XS.ifnullYes X.here hx rfl (pc0 := pc) (pc' := q) rfl hd rfl ho hq kk
theorem ifnonnullYes (O : On l Z ws R own nm bytes maxL ret C T h cells slots) {b : Addr} {o : Int} (hd : decode bytes pc = .ok (.ifnonnull o, 3))  (ho : 0 ≤ (pc : Int) + o) (hq : ((pc : Int) + o).toNat = q)
    (K : Go C ws Q k n (T.setTop (mkF C.m q Ls st))) : Go C ws Q k n (T.setTop (mkF C.m pc Ls (.ref b :: st))) := by
  obtain ⟨⟨hx, -, rfl, -⟩, ⟨_, X, -⟩, -⟩ := O
  exact K.of fun _ kk => XS.ifnonnullYes X.here hx rfl (pc0 := pc) (pc' := q) rfl hd rfl ho hq kk
theorem ifNo (O : On l Z ws R own nm bytes maxL ret C T h cells slots) {cd : ClassFile.Cond} {x : Int32} {o : Int} (hd : decode bytes pc = .ok (.ifCond cd o, 3)) (hc : ifCond.holds cd x = false) (hq : pc + 3 = q)
    (K : Go C ws Q k n (T.setTop (mkF C.m q Ls (st)))) : Go C ws Q k n (T.setTop (mkF C.m pc Ls (.int x :: st))) := by
  obtain ⟨⟨hx, -, rfl, -⟩, ⟨_, X, -⟩, -⟩ := O; subst hq
  exact K.of fun _ kk => XS.ifNo X.here hx rfl hd rfl hc kk
theorem icmpNo (O : On l Z ws R own nm bytes maxL ret C T h cells slots) {cd : ClassFile.Cond} {x y : Int32} {o : Int} (hd : decode bytes pc = .ok (.if_icmp cd o, 3)) (hc : if_icmp.holds cd x y = false) (hq : pc + 3 = q)
    (K : Go C ws Q k n (T.setTop (mkF C.m q Ls (st)))) : Go C ws Q k n (T.setTop (mkF C.m pc Ls (.int y :: .int x :: st))) := by
  obtain ⟨⟨hx, -, rfl, -⟩, ⟨_, X, -⟩, -⟩ := O; subst hq
  exact K.of fun _ kk => XS.icmpNo X.here hx rfl hd rfl hc kk
theorem ifnullNo (O : On l Z ws R own nm bytes maxL ret C T h cells slots) {b : Addr} {o : Int} (hd : decode bytes pc = .ok (.ifnull o, 3))  (hq : pc + 3 = q)
    (K : Go C ws Q k n (T.setTop (mkF C.m q Ls (st)))) : Go C ws Q k n (T.setTop (mkF C.m pc Ls (.ref b :: st))) := by
  obtain ⟨⟨hx, -, rfl, -⟩, ⟨_, X, -⟩, -⟩ := O; subst hq
  exact K.of fun _ kk => XS.ifnullNo X.here hx rfl hd rfl kk
theorem ifnonnullNo (O : On l Z ws R own nm bytes maxL ret C T h cells slots) {o : Int} (hd : decode bytes pc = .ok (.ifnonnull o, 3))  (hq : pc + 3 = q)
    (K : Go C ws Q k n (T.setTop (mkF C.m q Ls (st)))) : Go C ws Q k n (T.setTop (mkF C.m pc Ls (.null :: st))) := by
  obtain ⟨⟨hx, -, rfl, -⟩, ⟨_, X, -⟩, -⟩ := O; subst hq
  exact K.of fun _ kk => XS.ifnonnullNo X.here hx rfl hd rfl kk
theorem acmp (O : On l Z ws R own nm bytes maxL ret C T h cells slots) {cd : ACond} {x y : Value} {o : Int} {same : Bool} (hd : decode bytes pc = .ok (.if_acmp cd o, 3)) (h1 : x.isRef = true) (h2 : y.isRef = true) (hs : decide (x = y) = same) (ho : 0 ≤ (pc : Int) + o) (hq : q = if acV cd same = true then ((pc : Int) + o).toNat else pc + 3)
    (K : Go C ws Q k n (T.setTop (mkF C.m q Ls st))) : Go C ws Q k n (T.setTop (mkF C.m pc Ls (y :: x :: st))) := by
  obtain ⟨⟨hx, -, rfl, -⟩, ⟨_, X, -⟩, -⟩ := O
  exact K.of fun _ kk => Jvm.RoadKit.acmp (g := mkF C.m pc Ls (y :: x :: st)) X hx rfl h1 h2 (pc0 := pc) (pc' := q) rfl hd rfl hs ho hq kk
theorem ldcI (O : On l Z ws R own nm bytes maxL ret C T h cells slots) {i : Nat} {v : Int32} (hd : decode bytes pc = .ok (.ldc i, 2)) (w : (Cond.constant own i v).before a0 Z = true) (hq : pc + 2 = q)
    (K : Go C ws Q k n (T.setTop (mkF C.m q Ls (.int v :: st)))) : Go C ws Q k n (T.setTop (mkF C.m pc Ls st)) := by
  obtain ⟨⟨hx, hZ, rfl, -, hown, -⟩, ⟨_, X, -⟩, -⟩ := O; subst hq
  exact K.of fun _ kk => X.ldcInt hx hown (mvT hZ w) (g := mkF C.m pc Ls st) rfl hd _ kk
theorem ldcwI (O : On l Z ws R own nm bytes maxL ret C T h cells slots) {i : Nat} {v : Int32} (hd : decode bytes pc = .ok (.ldc_w i, 3)) (w : (Cond.constant own i v).before a0 Z = true) (hq : pc + 3 = q)
    (K : Go C ws Q k n (T.setTop (mkF C.m q Ls (.int v :: st)))) : Go C ws Q k n (T.setTop (mkF C.m pc Ls st)) := by
  obtain ⟨⟨hx, hZ, rfl, -, hown, -⟩, ⟨_, X, -⟩, -⟩ := O; subst hq
  exact K.of fun _ kk => X.ldcwInt hx hown (mvT hZ w) (g := mkF C.m pc Ls st) rfl hd _ kk
theorem ldcL (O : On l Z ws R own nm bytes maxL ret C T h cells slots) {i : Nat} {v : Int64} (hd : decode bytes pc = .ok (.ldc2_w i, 3)) (w : (Cond.constantLong own i v).before a0 Z = true) (hq : pc + 3 = q)
    (K : Go C ws Q k n (T.setTop (mkF C.m q Ls (.long v :: st)))) : Go C ws Q k n (T.setTop (mkF C.m pc Ls st)) := by
  obtain ⟨⟨hx, hZ, rfl, -, hown, -⟩, ⟨_, X, -⟩, -⟩ := O; subst hq
  exact K.of fun _ kk => X.ldc2Long hx hown (mvT hZ w) (g := mkF C.m pc Ls st) rfl hd _ kk
theorem getF (O : On l Z ws R own nm bytes maxL ret C T h cells slots) {i : Nat} {R0 D f d host : String} {a : Addr} {v : Value} (hd : decode bytes pc = .ok (.getfield i, 3)) (w : (Cond.fieldLink own i R0 f d).before a0 Z = true ∨ (Cond.fieldLinkNest own i R0 f d host).before a0 Z = true) (via : Via Z R0 D f d) (F : Fld Z h a D f d v) (hq : pc + 3 = q)
    (K : ∀ T', On l Z ws R own nm bytes maxL ret C T' h cells slots → Go C ws Q k n (T'.setTop (mkF C.m q Ls (v :: st)))) : Go C ws Q k n (T.setTop (mkF C.m pc Ls (.ref a :: st))) := by
  obtain ⟨⟨hx, hZ, rfl, r1, hown, r2⟩, ⟨_, X, N⟩, eT⟩ := O; subst hq
  obtain ⟨T', X', e', stp⟩ := Jvm.RoadKit.getF X hx hZ hown w via eT F (g := mkF C.m pc Ls (.ref a :: st)) rfl rfl hd
  exact (K T' ⟨⟨hx, hZ, rfl, r1, hown, r2⟩, ⟨_, X', N⟩, e'⟩).of fun _ kk => stp _ kk
theorem getS (O : On l Z ws R own nm bytes maxL ret C T h cells slots) {i : Nat} {D f d : String} {v : Value} (hd : decode bytes pc = .ok (.getstatic i, 3)) (w : (Cond.fieldLink own i D f d).before a0 Z = true) (F : Sta Z h D f d v) (hq : pc + 3 = q)
    (K : ∀ T', On l Z ws R own nm bytes maxL ret C T' h cells slots → Go C ws Q k n (T'.setTop (mkF C.m q Ls (v :: st)))) : Go C ws Q k n (T.setTop (mkF C.m pc Ls st)) := by
  obtain ⟨⟨hx, hZ, rfl, r1, hown, r2⟩, ⟨_, X, N⟩, eT⟩ := O; subst hq
  obtain ⟨T', X', e', stp⟩ := Jvm.RoadKit.getS (host := "") X hx hZ hown w Via.refl eT F (g := mkF C.m pc Ls st) rfl hd
  exact (K T' ⟨⟨hx, hZ, rfl, r1, hown, r2⟩, ⟨_, X', N⟩, e'⟩).of fun _ kk => stp _ kk
theorem putF (O : On l Z ws R own nm bytes maxL ret C T h cells slots) {i kk : Nat} {R0 D f d host K0 : String} {ty : FieldType} {a : Addr} {v old : Value} (hd : decode bytes pc = .ok (.putfield i, 3)) (w : (Cond.fieldLink own i R0 f d).before a0 Z = true ∨ (Cond.fieldLinkNest own i R0 f d host).before a0 Z = true) (via : Via Z R0 D f d)
    (F : Fld Z h a D f d old) (E : Exa Z h a K0) (L : (Cond.lays K0 D f d).before a0 Z = true ∨ ((Cond.laysFinal K0 D f d).before a0 Z = true ∧ own = D ∧ nm = "<init>")) (wi : (Cond.instantiable K0 kk).before a0 Z = true) (hty : parseFieldDescriptor d = some ty) (hn : narrow ty v = v) (hf : fits ty v = true) (ha : a ∈ ws ∨ C.s.heap.size ≤ a) (hq : pc + 3 = q)
    (K : ∀ T' h', On l Z ws R own nm bytes maxL ret C T' h' cells slots → Wr h h' a (Jvm.RoadKit.slotOf Z D f d) v → Go C ws Q k n (T'.setTop (mkF C.m q Ls st))) : Go C ws Q k n (T.setTop (mkF C.m pc Ls (v :: .ref a :: st))) := by
  obtain ⟨⟨hx, hZ, rfl, r1, hown, hnm, r2⟩, ⟨_, X, N⟩, eT⟩ := O; subst hq
  obtain ⟨T', h', X', e', W, stp⟩ := Jvm.RoadKit.putF X hx hZ hown w via eT F E (L.imp id fun q => ⟨q.1, q.2.1, hnm.trans q.2.2⟩) wi hty hn hf (g := mkF C.m pc Ls (v :: .ref a :: st)) rfl rfl hd
  exact (K T' h' ⟨⟨hx, hZ, rfl, r1, hown, hnm, r2⟩, ⟨_, X', N.snoc ha⟩, e'⟩ W).of fun _ kk => stp _ kk
theorem newO (O : On l Z ws R own nm bytes maxL ret C T h cells slots) {i ns c2 s2 : Nat} {K0 : String} (hd : decode bytes pc = .ok (.new i, 3)) (w : (Cond.classLink own i K0).before a0 Z = true) (wi : (Cond.instantiable K0 ns).before a0 Z = true) (wz : (Cond.initialized K0).before a0 Z = true) (hc2 : cells + 1 = c2) (hs2 : slots + ns = s2) (hc : c2 ≤ R.cells) (hl : s2 ≤ R.slots) (hq : pc + 3 = q)
    (K : ∀ a T' h', a = h.size → C.s.heap.size ≤ a → On l Z ws R own nm bytes maxL ret C T' h' c2 s2 → Ext h h' → Exa Z h' a K0 → (∀ {O nm d : String} {ty : FieldType}, Laid Z a0 K0 O nm d → parseFieldDescriptor d = some ty → Fld Z h' a O nm d (defaultValue ty)) → Go C ws Q k n (T'.setTop (mkF C.m q Ls (.ref a :: st)))) : Go C ws Q k n (T.setTop (mkF C.m pc Ls st)) := by
  obtain ⟨⟨hx, hZ, rfl, r1, hown, r2⟩, ⟨_, X, N⟩, eT⟩ := O; subst hq hc2 hs2
  obtain ⟨T', h', X', e', E, A, D, -, stp⟩ := Jvm.RoadKit.newO X hx hZ hown w wi wz eT (g := mkF C.m pc Ls st) rfl hd hc hl
  exact (K _ T' h' rfl (eT ▸ X.same.2.1) ⟨⟨hx, hZ, rfl, r1, hown, r2⟩, ⟨_, X', N⟩, e'⟩ E A D).of fun _ kk => stp _ kk
theorem newP (O : On l Z ws R own nm bytes maxL ret C T h cells slots) {aty : ArrayType} {c2 s2 : Nat} (hd : decode bytes pc = .ok (.newarray aty, 2)) (w : (Cond.arrayClass (newarray.typeOf aty)).before a0 Z = true) {z : Int32} (hn : ¬ z < 0) {cap : Nat} (hcap : z.toNatClampNeg ≤ cap) (hb : cap * 8 ≤ 536870912) (hc2 : cells + 1 = c2) (hs2 : slots + cap = s2) (hc : c2 ≤ R.cells) (hl : s2 ≤ R.slots) (hq : pc + 2 = q)
    (K : ∀ a T' h' cA, a = h.size → C.s.heap.size ≤ a → On l Z ws R own nm bytes maxL ret C T' h' c2 s2 → Ext h h' → Arr Z h' a (newA cA (newarray.typeOf aty) z) (newarray.typeOf aty) → Go C ws Q k n (T'.setTop (mkF C.m q Ls (.ref a :: st)))) : Go C ws Q k n (T.setTop (mkF C.m pc Ls (.int z :: st))) := by
  obtain ⟨⟨hx, hZ, rfl, r1, hown, r2⟩, ⟨_, X, N⟩, eT⟩ := O; subst hq hc2 hs2
  obtain ⟨T', h', cA, X', e', E, A, stp⟩ := Jvm.RoadKit.newP X hx hZ w eT (g := mkF C.m pc Ls (.int z :: st)) rfl hd rfl hn hcap hb hc hl
  exact (K _ T' h' cA rfl (eT ▸ X.same.2.1) ⟨⟨hx, hZ, rfl, r1, hown, r2⟩, ⟨_, X', N⟩, e'⟩ E A).of fun _ kk => stp _ kk
theorem initO (O : On l Z ws R own nm bytes maxL ret C T h cells slots) {i : Nat} {a : Addr} (hd : decode bytes pc = .ok (.invokespecial i, 3)) (w1 : (Cond.methodLink own i Lib.objectInit).before a0 Z = true) (w2 : (Cond.instanceMethod Lib.objectInit).before a0 Z = true) (w3 : (Cond.code Lib.objectInit ⟨#[0xb1]⟩ 1 none).before a0 Z = true) (hsz : Ls.size = maxL) (hf : 1 ≤ R.frames) {W : Nat} (hW : (st.map fun v => v.category).sum ≤ W) (hl : W + 12 ≤ R.locals) (hq : pc + 3 = q)
    (K : ∀ T', On l Z ws R own nm bytes maxL ret C T' h cells slots → Go C ws Q k n (T'.setTop (mkF C.m q Ls st))) : Go C ws Q k n (T.setTop (mkF C.m pc Ls (.ref a :: st))) := by
  obtain ⟨⟨hx, hZ, rfl, r1, hown, r2⟩, ⟨_, X, N⟩, eT⟩ := O; subst hq
  obtain ⟨T', X', e', stp⟩ := Jvm.RoadKit.initO X hx hZ hown w1 w2 w3 eT (g := mkF C.m pc Ls (.ref a :: st)) rfl (hsz.trans r1.symm) rfl hd hf (W := W) (by show 2 * 0 + _ ≤ _; rw [Nat.mul_zero, Nat.zero_add]; exact hW) hl
  exact (K T' ⟨⟨hx, hZ, rfl, r1, hown, r2⟩, ⟨_, X', N⟩, e'⟩).of fun _ kk => stp _ kk
theorem iaload (O : On l Z ws R own nm bytes maxL ret C T h cells slots) {a : Addr} {cl : Cell} {j : Int32} {v : Value} (hd : decode bytes pc = .ok (.iaload, 1)) (A : Arr Z h a cl .int) (hin : ¬ (j < 0 ∨ cl.slots.size ≤ j.toNatClampNeg)) (hv : cl.slots[j.toNatClampNeg]? = some v) (hq : pc + 1 = q)
    (K : Go C ws Q k n (T.setTop (mkF C.m q Ls (v :: st)))) : Go C ws Q k n (T.setTop (mkF C.m pc Ls (.int j :: .ref a :: st))) := by
  obtain ⟨⟨hx, hZ, rfl, -⟩, ⟨_, X, N⟩, eT⟩ := O; subst hq
  exact K.of fun _ kk => X.iaload hx (by rw [eT]; exact A.1) (State.isArrayOf_alike hZ.alike A.2.1) A.2.2 hin hv (g := mkF C.m pc Ls (.int j :: .ref a :: st)) rfl rfl hd _ kk
theorem laload (O : On l Z ws R own nm bytes maxL ret C T h cells slots) {a : Addr} {cl : Cell} {j : Int32} {v : Value} (hd : decode bytes pc = .ok (.laload, 1)) (A : Arr Z h a cl .long) (hin : ¬ (j < 0 ∨ cl.slots.size ≤ j.toNatClampNeg)) (hv : cl.slots[j.toNatClampNeg]? = some v) (hq : pc + 1 = q)
    (K : Go C ws Q k n (T.setTop (mkF C.m q Ls (v :: st)))) : Go C ws Q k n (T.setTop (mkF C.m pc Ls (.int j :: .ref a :: st))) := by
  obtain ⟨⟨hx, hZ, rfl, -⟩, ⟨_, X, N⟩, eT⟩ := O; subst hq
  exact K.of fun _ kk => X.laload hx (by rw [eT]; exact A.1) (State.isArrayOf_alike hZ.alike A.2.1) A.2.2 hin hv (g := mkF C.m pc Ls (.int j :: .ref a :: st)) rfl rfl hd _ kk
theorem baload (O : On l Z ws R own nm bytes maxL ret C T h cells slots) {a : Addr} {cl : Cell} {j : Int32} {v : Value} (hd : decode bytes pc = .ok (.baload, 1)) (A : Arr Z h a cl .byte) (hin : ¬ (j < 0 ∨ cl.slots.size ≤ j.toNatClampNeg)) (hv : cl.slots[j.toNatClampNeg]? = some v) (hq : pc + 1 = q)
    (K : Go C ws Q k n (T.setTop (mkF C.m q Ls (v :: st)))) : Go C ws Q k n (T.setTop (mkF C.m pc Ls (.int j :: .ref a :: st))) := by
  obtain ⟨⟨hx, hZ, rfl, -⟩, ⟨_, X, N⟩, eT⟩ := O; subst hq
  exact K.of fun _ kk => X.baloadBytes hx (by rw [eT]; exact A.1) (State.isArrayOf_alike hZ.alike A.2.1) A.2.2 hin hv (g := mkF C.m pc Ls (.int j :: .ref a :: st)) rfl rfl hd _ kk
theorem aaload (O : On l Z ws R own nm bytes maxL ret C T h cells slots) {a : Addr} {cl : Cell} {ty : FieldType} {j : Int32} {v : Value} (hd : decode bytes pc = .ok (.aaload, 1)) (A : Arr Z h a cl ty) (hty : ty.isReference = true) (hin : ¬ (j < 0 ∨ cl.slots.size ≤ j.toNatClampNeg)) (hv : cl.slots[j.toNatClampNeg]? = some v) (hq : pc + 1 = q)
    (K : Go C ws Q k n (T.setTop (mkF C.m q Ls (v :: st)))) : Go C ws Q k n (T.setTop (mkF C.m pc Ls (.int j :: .ref a :: st))) := by
  obtain ⟨⟨hx, hZ, rfl, -⟩, ⟨_, X, N⟩, eT⟩ := O; subst hq
  exact K.of fun _ kk => X.aaload hx (by rw [eT]; exact A.1) (State.isArrayOf_alike hZ.alike A.2.1) hty A.2.2 hin hv (g := mkF C.m pc Ls (.int j :: .ref a :: st)) rfl rfl hd _ kk
theorem arraylength (O : On l Z ws R own nm bytes maxL ret C T h cells slots) {a : Addr} {cl : Cell} {ty : FieldType} {z : Int32} (hd : decode bytes pc = .ok (.arraylength, 1)) (A : Arr Z h a cl ty) (hz : cl.slots.size.toInt32 = z) (hq : pc + 1 = q)
    (K : Go C ws Q k n (T.setTop (mkF C.m q Ls (.int z :: st)))) : Go C ws Q k n (T.setTop (mkF C.m pc Ls (.ref a :: st))) := by
  obtain ⟨⟨hx, hZ, rfl, -⟩, ⟨_, X, N⟩, eT⟩ := O; subst hq hz
  exact K.of fun _ kk => X.arraylength hx (by rw [eT]; exact A.1) (State.isArrayOf_alike hZ.alike A.2.1) (g := mkF C.m pc Ls (.ref a :: st)) rfl rfl hd _ kk
theorem iastore (O : On l Z ws R own nm bytes maxL ret C T h cells slots) {a : Addr} {cl : Cell} {j : Int32} {x : Int32} (hd : decode bytes pc = .ok (.iastore, 1)) (A : Arr Z h a cl .int) (hin : ¬ (j < 0 ∨ cl.slots.size ≤ j.toNatClampNeg)) (ha : a ∈ ws ∨ C.s.heap.size ≤ a) (hq : pc + 1 = q)
    (K : ∀ T' h', On l Z ws R own nm bytes maxL ret C T' h' cells slots → Wr h h' a j.toNatClampNeg (.int x) → Go C ws Q k n (T'.setTop (mkF C.m q Ls st))) : Go C ws Q k n (T.setTop (mkF C.m pc Ls (.int x :: .int j :: .ref a :: st))) := by
  obtain ⟨⟨hx, hZ, rfl, r1, hown, r2⟩, ⟨_, X, N⟩, eT⟩ := O; subst hq
  obtain ⟨T', h', X', e', W, stp⟩ := Jvm.RoadKit.stI X hx hZ eT A hin (g := mkF C.m pc Ls (.int x :: .int j :: .ref a :: st)) rfl rfl hd
  exact (K T' h' ⟨⟨hx, hZ, rfl, r1, hown, r2⟩, ⟨_, X', N.snoc ha⟩, e'⟩ W).of fun _ kk => stp _ kk
theorem lastore (O : On l Z ws R own nm bytes maxL ret C T h cells slots) {a : Addr} {cl : Cell} {j : Int32} {x : Int64} (hd : decode bytes pc = .ok (.lastore, 1)) (A : Arr Z h a cl .long) (hin : ¬ (j < 0 ∨ cl.slots.size ≤ j.toNatClampNeg)) (ha : a ∈ ws ∨ C.s.heap.size ≤ a) (hq : pc + 1 = q)
    (K : ∀ T' h', On l Z ws R own nm bytes maxL ret C T' h' cells slots → Wr h h' a j.toNatClampNeg (.long x) → Go C ws Q k n (T'.setTop (mkF C.m q Ls st))) : Go C ws Q k n (T.setTop (mkF C.m pc Ls (.long x :: .int j :: .ref a :: st))) := by
  obtain ⟨⟨hx, hZ, rfl, r1, hown, r2⟩, ⟨_, X, N⟩, eT⟩ := O; subst hq
  obtain ⟨T', h', X', e', W, stp⟩ := Jvm.RoadKit.stJ X hx hZ eT A hin (g := mkF C.m pc Ls (.long x :: .int j :: .ref a :: st)) rfl rfl hd
  exact (K T' h' ⟨⟨hx, hZ, rfl, r1, hown, r2⟩, ⟨_, X', N.snoc ha⟩, e'⟩ W).of fun _ kk => stp _ kk
theorem bastore (O : On l Z ws R own nm bytes maxL ret C T h cells slots) {a : Addr} {cl : Cell} {j : Int32} {x : Int32} (hd : decode bytes pc = .ok (.bastore, 1)) (A : Arr Z h a cl .byte) (hin : ¬ (j < 0 ∨ cl.slots.size ≤ j.toNatClampNeg)) (ha : a ∈ ws ∨ C.s.heap.size ≤ a) (hq : pc + 1 = q)
    (K : ∀ T' h', On l Z ws R own nm bytes maxL ret C T' h' cells slots → Wr h h' a j.toNatClampNeg (.int (nar .byte x)) → Go C ws Q k n (T'.setTop (mkF C.m q Ls st))) : Go C ws Q k n (T.setTop (mkF C.m pc Ls (.int x :: .int j :: .ref a :: st))) := by
  obtain ⟨⟨hx, hZ, rfl, r1, hown, r2⟩, ⟨_, X, N⟩, eT⟩ := O; subst hq
  obtain ⟨T', h', X', e', W, stp⟩ := Jvm.RoadKit.stB X hx hZ eT A hin (g := mkF C.m pc Ls (.int x :: .int j :: .ref a :: st)) rfl rfl hd
  exact (K T' h' ⟨⟨hx, hZ, rfl, r1, hown, r2⟩, ⟨_, X', N.snoc ha⟩, e'⟩ W).of fun _ kk => stp _ kk
theorem callS (O : On l Z ws R own nm bytes maxL ret C T h cells slots) {i : Nat} {y : MethodName} {yb : ByteArray} {yl : Nat} {yr : Option FieldType} {rm : Room} {argsL rest : List Value} {wsc : List Addr} {Qc : Option Value → Heap → Prop} {ps : List FieldType} {rr : Option FieldType} {W c2 s2 : Nat}
    (hd : decode bytes pc = .ok (.invokestatic i, 3)) (w1 : (Cond.methodLink own i y).before a0 Z = true) (w2 : (Cond.static y).before a0 Z = true) (w3 : (Cond.initialized y.cls).before a0 Z = true) (w4 : (Cond.code y yb yl yr).before a0 Z = true) (hy : y.cls ≠ "java/lang/invoke/MethodHandle" ∧ y.cls ≠ "java/lang/invoke/VarHandle")
    (hM : Met l Z y yb yl yr [] rm (argsL).toArray wsc h Qc) (hsz : Ls.size = maxL) (hpd : parseMethodDescriptor y.desc = some ⟨ps, rr⟩) (hlen : argsL.length = ps.length) (hst : st = argsL.reverse ++ rest) (hW : (rest.map fun v => v.category).sum ≤ W)
    (hf : rm.frames + 1 ≤ R.frames) (hl : W + (yl + 11) + rm.locals ≤ R.locals) (hc2 : cells + rm.cells = c2) (hs2 : slots + rm.slots = s2) (hcl : c2 ≤ R.cells) (hsl : s2 ≤ R.slots) (hws : ∀ x ∈ wsc, x ∈ ws ∨ C.s.heap.size ≤ x) (hq : pc + 3 = q)
    (K : ∀ v T' h', On l Z ws R own nm bytes maxL ret C T' h' c2 s2 → Keep h h' wsc → Qc v h' → Go C ws Q k n (T'.setTop (mkF C.m q Ls (v.toList ++ rest)))) : Go C ws Q k n (T.setTop (mkF C.m pc Ls st)) := by
  obtain ⟨⟨hx, hZ, rfl, r1, hown, r2⟩, ⟨locs, X, N⟩, eT⟩ := O; subst hq hc2 hs2
  obtain ⟨v, _, ⟨T', L', k', n'⟩, -, X', ⟨Lc, hQ, l', y', z'⟩, stp⟩ := Jvm.LawKit.callS X hx (y := y) hown (mvT hZ w1) (mvT hZ w2) (mvT hZ w3) (mvT hZ w4) hy (backOf (W := W) (Q := Post wsc rm.cells h Qc) hM hZ w4 w3 hf hl) (g := mkF C.m pc Ls st) rfl (hsz.trans r1.symm) (argsL := argsL) (rest := rest) (lenOf hpd hlen) hst (by show 2 * 0 + _ ≤ _; rw [Nat.mul_zero, Nat.zero_add]; exact hW) hd (fun _ _ => ⟨rfl, eT, hcl, hsl⟩)
  dsimp only [Pt.U, Pt.locs, Pt.cells, Pt.slots] at X' l' y' z' stp hQ
  subst l' y' z'
  obtain ⟨hF, hK, hE, hQ⟩ := hQ
  have hb : C.s.heap.size ≤ h.size := eT ▸ X.same.2.1
  exact (K v T' T'.heap ⟨⟨hx, hZ, rfl, r1, hown, r2⟩, ⟨_, X', N.app fun y hy => (hF y hy).elim (hws _) fun z => Or.inr (Nat.le_trans hb z)⟩, rfl⟩ hK hQ).of fun _ kk => stp _ kk
theorem callS0 (O : On l Z ws R own nm bytes maxL ret C T h cells slots) {i : Nat} {y : MethodName} {yb : ByteArray} {yl : Nat} {yr : Option FieldType} {rm : Room} {argsL rest : List Value} {wsc : List Addr} {Qc : Option Value → Heap → Prop} {ps : List FieldType} {rr : Option FieldType} {W c2 s2 : Nat}
    (hd : decode bytes pc = .ok (.invokestatic i, 3)) (w1 : (Cond.methodLink own i y).before a0 Z = true) (w2 : (Cond.static y).before a0 Z = true) (w3 : (Cond.initialized y.cls).before a0 Z = true) (w4 : (Cond.code y yb yl yr).before a0 Z = true) (hy : y.cls ≠ "java/lang/invoke/MethodHandle" ∧ y.cls ≠ "java/lang/invoke/VarHandle")
    (hM : Met l Z y yb yl yr [] rm (argsL).toArray wsc h Qc) (hsz : Ls.size = maxL) (hpd : parseMethodDescriptor y.desc = some ⟨ps, rr⟩) (hlen : argsL.length = ps.length) (hst : st = argsL.reverse ++ rest) (hW : (rest.map fun v => v.category).sum ≤ W)
    (hf : rm.frames + 1 ≤ R.frames) (hl : W + (yl + 11) + rm.locals ≤ R.locals) (hc2 : cells + rm.cells = c2) (hs2 : slots + rm.slots = s2) (hcl : c2 ≤ R.cells) (hsl : s2 ≤ R.slots) (hrc : rm.cells = 0) (hwc : wsc = []) (hq : pc + 3 = q)
    (K : ∀ v T', On l Z ws R own nm bytes maxL ret C T' h c2 s2 → Qc v h → Go C ws Q k n (T'.setTop (mkF C.m q Ls (v.toList ++ rest)))) : Go C ws Q k n (T.setTop (mkF C.m pc Ls st)) := by
  obtain ⟨⟨hx, hZ, rfl, r1, hown, r2⟩, ⟨locs, X, N⟩, eT⟩ := O; subst hq hc2 hs2
  obtain ⟨v, _, ⟨T', L', k', n'⟩, -, X', ⟨Lc, hQ, l', y', z'⟩, stp⟩ := Jvm.LawKit.callS X hx (y := y) hown (mvT hZ w1) (mvT hZ w2) (mvT hZ w3) (mvT hZ w4) hy (backOf (W := W) (Q := Post wsc rm.cells h Qc) hM hZ w4 w3 hf hl) (g := mkF C.m pc Ls st) rfl (hsz.trans r1.symm) (argsL := argsL) (rest := rest) (lenOf hpd hlen) hst (by show 2 * 0 + _ ≤ _; rw [Nat.mul_zero, Nat.zero_add]; exact hW) hd (fun _ _ => ⟨rfl, eT, hcl, hsl⟩)
  dsimp only [Pt.U, Pt.locs, Pt.cells, Pt.slots] at X' l' y' z' stp hQ
  subst l' y' z'
  obtain ⟨hF, hK, hE, hQ⟩ := hQ
  have hb : C.s.heap.size ≤ h.size := eT ▸ X.same.2.1
  have he : T'.heap = h := hE hrc hwc
  refine (K v T' ⟨⟨hx, hZ, rfl, r1, hown, r2⟩, ⟨_, X', N.app fun y hy => (hF y hy).elim (fun z => by rw [hwc] at z; cases z) fun z => Or.inr (Nat.le_trans hb z)⟩, he⟩ (he ▸ hQ)).of fun _ kk => stp _ kk
theorem callI (O : On l Z ws R own nm bytes maxL ret C T h cells slots) {i : Nat} {y : MethodName} {yb : ByteArray} {yl : Nat} {rm : Room} {argsL rest : List Value} {wsc : List Addr} {Qc : Option Value → Heap → Prop} {ps : List FieldType} {rr : Option FieldType} {W c2 s2 : Nat} {a : Addr}
    (hd : decode bytes pc = .ok (.invokespecial i, 3)) (hy1 : y.name = "<init>") (w1 : (Cond.methodLink own i y).before a0 Z = true) (w2 : (Cond.instanceMethod y).before a0 Z = true) (w3 : (Cond.initialized y.cls).before a0 Z = true) (w4 : (Cond.code y yb yl none).before a0 Z = true) (hy : y.cls ≠ "java/lang/invoke/MethodHandle" ∧ y.cls ≠ "java/lang/invoke/VarHandle")
    (hM : Met l Z y yb yl none [] rm (Value.ref a :: argsL).toArray wsc h Qc) (hsz : Ls.size = maxL) (hpd : parseMethodDescriptor y.desc = some ⟨ps, rr⟩) (hlen : argsL.length = ps.length) (hst : st = argsL.reverse ++ .ref a :: rest) (hW : (rest.map fun v => v.category).sum ≤ W)
    (hf : rm.frames + 1 ≤ R.frames) (hl : W + (yl + 11) + rm.locals ≤ R.locals) (hc2 : cells + rm.cells = c2) (hs2 : slots + rm.slots = s2) (hcl : c2 ≤ R.cells) (hsl : s2 ≤ R.slots) (hws : ∀ x ∈ wsc, x ∈ ws ∨ C.s.heap.size ≤ x) (hq : pc + 3 = q)
    (K : ∀ v T' h', On l Z ws R own nm bytes maxL ret C T' h' c2 s2 → Keep h h' wsc → Qc v h' → Go C ws Q k n (T'.setTop (mkF C.m q Ls (v.toList ++ rest)))) : Go C ws Q k n (T.setTop (mkF C.m pc Ls st)) := by
  obtain ⟨⟨hx, hZ, rfl, r1, hown, r2⟩, ⟨locs, X, N⟩, eT⟩ := O; subst hq hc2 hs2
  obtain ⟨v, _, ⟨T', L', k', n'⟩, -, X', ⟨Lc, hQ, l', y', z'⟩, stp⟩ := X.specialBack hx (y := y) hy1 hown (mvT hZ w1) (mvT hZ w2) (mvT hZ w4) hy (backOf (W := W) (Q := Post wsc rm.cells h Qc) hM hZ w4 w3 hf hl) (g := mkF C.m pc Ls st) rfl (hsz.trans r1.symm) (Steps.refl _) (a := a) (argsL := argsL) (rest := rest) (lenOf hpd hlen) hst (by show 2 * 0 + _ ≤ _; rw [Nat.mul_zero, Nat.zero_add]; exact hW) hd (fun _ _ => ⟨rfl, eT, hcl, hsl⟩)
  dsimp only [Pt.U, Pt.locs, Pt.cells, Pt.slots] at X' l' y' z' stp hQ
  subst l' y' z'
  obtain ⟨hF, hK, hE, hQ⟩ := hQ
  have hb : C.s.heap.size ≤ h.size := eT ▸ X.same.2.1
  exact (K v T' T'.heap ⟨⟨hx, hZ, rfl, r1, hown, r2⟩, ⟨_, X', N.app fun y hy => (hF y hy).elim (hws _) fun z => Or.inr (Nat.le_trans hb z)⟩, rfl⟩ hK hQ).via (stp)
theorem callI0 (O : On l Z ws R own nm bytes maxL ret C T h cells slots) {i : Nat} {y : MethodName} {yb : ByteArray} {yl : Nat} {rm : Room} {argsL rest : List Value} {wsc : List Addr} {Qc : Option Value → Heap → Prop} {ps : List FieldType} {rr : Option FieldType} {W c2 s2 : Nat} {a : Addr}
    (hd : decode bytes pc = .ok (.invokespecial i, 3)) (hy1 : y.name = "<init>") (w1 : (Cond.methodLink own i y).before a0 Z = true) (w2 : (Cond.instanceMethod y).before a0 Z = true) (w3 : (Cond.initialized y.cls).before a0 Z = true) (w4 : (Cond.code y yb yl none).before a0 Z = true) (hy : y.cls ≠ "java/lang/invoke/MethodHandle" ∧ y.cls ≠ "java/lang/invoke/VarHandle")
    (hM : Met l Z y yb yl none [] rm (Value.ref a :: argsL).toArray wsc h Qc) (hsz : Ls.size = maxL) (hpd : parseMethodDescriptor y.desc = some ⟨ps, rr⟩) (hlen : argsL.length = ps.length) (hst : st = argsL.reverse ++ .ref a :: rest) (hW : (rest.map fun v => v.category).sum ≤ W)
    (hf : rm.frames + 1 ≤ R.frames) (hl : W + (yl + 11) + rm.locals ≤ R.locals) (hc2 : cells + rm.cells = c2) (hs2 : slots + rm.slots = s2) (hcl : c2 ≤ R.cells) (hsl : s2 ≤ R.slots) (hrc : rm.cells = 0) (hwc : wsc = []) (hq : pc + 3 = q)
    (K : ∀ v T', On l Z ws R own nm bytes maxL ret C T' h c2 s2 → Qc v h → Go C ws Q k n (T'.setTop (mkF C.m q Ls (v.toList ++ rest)))) : Go C ws Q k n (T.setTop (mkF C.m pc Ls st)) := by
  obtain ⟨⟨hx, hZ, rfl, r1, hown, r2⟩, ⟨locs, X, N⟩, eT⟩ := O; subst hq hc2 hs2
  obtain ⟨v, _, ⟨T', L', k', n'⟩, -, X', ⟨Lc, hQ, l', y', z'⟩, stp⟩ := X.specialBack hx (y := y) hy1 hown (mvT hZ w1) (mvT hZ w2) (mvT hZ w4) hy (backOf (W := W) (Q := Post wsc rm.cells h Qc) hM hZ w4 w3 hf hl) (g := mkF C.m pc Ls st) rfl (hsz.trans r1.symm) (Steps.refl _) (a := a) (argsL := argsL) (rest := rest) (lenOf hpd hlen) hst (by show 2 * 0 + _ ≤ _; rw [Nat.mul_zero, Nat.zero_add]; exact hW) hd (fun _ _ => ⟨rfl, eT, hcl, hsl⟩)
  dsimp only [Pt.U, Pt.locs, Pt.cells, Pt.slots] at X' l' y' z' stp hQ
  subst l' y' z'
  obtain ⟨hF, hK, hE, hQ⟩ := hQ
  have hb : C.s.heap.size ≤ h.size := eT ▸ X.same.2.1
  have he : T'.heap = h := hE hrc hwc
  refine (K v T' ⟨⟨hx, hZ, rfl, r1, hown, r2⟩, ⟨_, X', N.app fun y hy => (hF y hy).elim (fun z => by rw [hwc] at z; cases z) fun z => Or.inr (Nat.le_trans hb z)⟩, he⟩ (he ▸ hQ)).via (stp)
theorem callV (O : On l Z ws R own nm bytes maxL ret C T h cells slots) {i : Nat} {y z : MethodName} {yb : ByteArray} {yl : Nat} {yr : Option FieldType} {rm : Room} {argsL rest : List Value} {wsc : List Addr} {Qc : Option Value → Heap → Prop} {ps : List FieldType} {rr : Option FieldType} {W c2 s2 : Nat} {a : Addr} {K0 : String}
    (hd : decode bytes pc = .ok (.invokevirtual i, 3)) (w1 : (Cond.methodLink own i y).before a0 Z = true) (wd : (Cond.declares y).before a0 Z = true) (ws1 : (Cond.selects K0 y z).before a0 Z = true) (hyz : y = z) (w2 : (Cond.instanceMethod z).before a0 Z = true) (w3 : (Cond.initialized z.cls).before a0 Z = true) (w4 : (Cond.code z yb yl yr).before a0 Z = true) (hy : y.cls ≠ "java/lang/invoke/MethodHandle" ∧ y.cls ≠ "java/lang/invoke/VarHandle")
    (hM : Met l Z z yb yl yr [] rm (Value.ref a :: argsL).toArray wsc h Qc) (E : Exa Z h a K0) (hsz : Ls.size = maxL) (hpd : parseMethodDescriptor y.desc = some ⟨ps, rr⟩) (hlen : argsL.length = ps.length) (hst : st = argsL.reverse ++ .ref a :: rest) (hW : (rest.map fun v => v.category).sum ≤ W)
    (hf : rm.frames + 1 ≤ R.frames) (hl : W + (yl + 11) + rm.locals ≤ R.locals) (hc2 : cells + rm.cells = c2) (hs2 : slots + rm.slots = s2) (hcl : c2 ≤ R.cells) (hsl : s2 ≤ R.slots) (hws : ∀ x ∈ wsc, x ∈ ws ∨ C.s.heap.size ≤ x) (hq : pc + 3 = q)
    (K : ∀ v T' h', On l Z ws R own nm bytes maxL ret C T' h' c2 s2 → Keep h h' wsc → Qc v h' → Go C ws Q k n (T'.setTop (mkF C.m q Ls (v.toList ++ rest)))) : Go C ws Q k n (T.setTop (mkF C.m pc Ls st)) := by
  obtain ⟨⟨hx, hZ, rfl, r1, hown, r2⟩, ⟨locs, X, N⟩, eT⟩ := O; subst hq hc2 hs2
  subst hyz
  obtain ⟨_, _, q1, -, q3⟩ := isOf hZ eT E
  obtain ⟨v, _, ⟨T', L', k', n'⟩, -, X', ⟨Lc, hQ, l', y', z'⟩, stp⟩ := X.virtualBack hx (y := y) (z := y) hown (mvT hZ w1) (mvT hZ wd) (notFace_of_selects (args := #[]) (mvT hZ ws1)) (mvT hZ ws1) (mvT hZ w2) hy (backOf (W := W) (Q := Post wsc rm.cells h Qc) hM hZ w4 w3 hf hl) q1 q3 (g := mkF C.m pc Ls st) rfl (hsz.trans r1.symm) (Steps.refl _) (argsL := argsL) (rest := rest) (lenOf hpd hlen) hst (by show 2 * 0 + _ ≤ _; rw [Nat.mul_zero, Nat.zero_add]; exact hW) hd (fun _ _ => ⟨rfl, eT, hcl, hsl⟩)
  dsimp only [Pt.U, Pt.locs, Pt.cells, Pt.slots] at X' l' y' z' stp hQ
  subst l' y' z'
  obtain ⟨hF, hK, hE, hQ⟩ := hQ
  have hb : C.s.heap.size ≤ h.size := eT ▸ X.same.2.1
  exact (K v T' T'.heap ⟨⟨hx, hZ, rfl, r1, hown, r2⟩, ⟨_, X', N.app fun y hy => (hF y hy).elim (hws _) fun z => Or.inr (Nat.le_trans hb z)⟩, rfl⟩ hK hQ).via (stp)
theorem callV0 (O : On l Z ws R own nm bytes maxL ret C T h cells slots) {i : Nat} {y z : MethodName} {yb : ByteArray} {yl : Nat} {yr : Option FieldType} {rm : Room} {argsL rest : List Value} {wsc : List Addr} {Qc : Option Value → Heap → Prop} {ps : List FieldType} {rr : Option FieldType} {W c2 s2 : Nat} {a : Addr} {K0 : String}
    (hd : decode bytes pc = .ok (.invokevirtual i, 3)) (w1 : (Cond.methodLink own i y).before a0 Z = true) (wd : (Cond.declares y).before a0 Z = true) (ws1 : (Cond.selects K0 y z).before a0 Z = true) (hyz : y = z) (w2 : (Cond.instanceMethod z).before a0 Z = true) (w3 : (Cond.initialized z.cls).before a0 Z = true) (w4 : (Cond.code z yb yl yr).before a0 Z = true) (hy : y.cls ≠ "java/lang/invoke/MethodHandle" ∧ y.cls ≠ "java/lang/invoke/VarHandle")
    (hM : Met l Z z yb yl yr [] rm (Value.ref a :: argsL).toArray wsc h Qc) (E : Exa Z h a K0) (hsz : Ls.size = maxL) (hpd : parseMethodDescriptor y.desc = some ⟨ps, rr⟩) (hlen : argsL.length = ps.length) (hst : st = argsL.reverse ++ .ref a :: rest) (hW : (rest.map fun v => v.category).sum ≤ W)
    (hf : rm.frames + 1 ≤ R.frames) (hl : W + (yl + 11) + rm.locals ≤ R.locals) (hc2 : cells + rm.cells = c2) (hs2 : slots + rm.slots = s2) (hcl : c2 ≤ R.cells) (hsl : s2 ≤ R.slots) (hrc : rm.cells = 0) (hwc : wsc = []) (hq : pc + 3 = q)
    (K : ∀ v T', On l Z ws R own nm bytes maxL ret C T' h c2 s2 → Qc v h → Go C ws Q k n (T'.setTop (mkF C.m q Ls (v.toList ++ rest)))) : Go C ws Q k n (T.setTop (mkF C.m pc Ls st)) := by
  obtain ⟨⟨hx, hZ, rfl, r1, hown, r2⟩, ⟨locs, X, N⟩, eT⟩ := O; subst hq hc2 hs2
  subst hyz
  obtain ⟨_, _, q1, -, q3⟩ := isOf hZ eT E
  obtain ⟨v, _, ⟨T', L', k', n'⟩, -, X', ⟨Lc, hQ, l', y', z'⟩, stp⟩ := X.virtualBack hx (y := y) (z := y) hown (mvT hZ w1) (mvT hZ wd) (notFace_of_selects (args := #[]) (mvT hZ ws1)) (mvT hZ ws1) (mvT hZ w2) hy (backOf (W := W) (Q := Post wsc rm.cells h Qc) hM hZ w4 w3 hf hl) q1 q3 (g := mkF C.m pc Ls st) rfl (hsz.trans r1.symm) (Steps.refl _) (argsL := argsL) (rest := rest) (lenOf hpd hlen) hst (by show 2 * 0 + _ ≤ _; rw [Nat.mul_zero, Nat.zero_add]; exact hW) hd (fun _ _ => ⟨rfl, eT, hcl, hsl⟩)
  dsimp only [Pt.U, Pt.locs, Pt.cells, Pt.slots] at X' l' y' z' stp hQ
  subst l' y' z'
  obtain ⟨hF, hK, hE, hQ⟩ := hQ
  have hb : C.s.heap.size ≤ h.size := eT ▸ X.same.2.1
  have he : T'.heap = h := hE hrc hwc
  refine (K v T' ⟨⟨hx, hZ, rfl, r1, hown, r2⟩, ⟨_, X', N.app fun y hy => (hF y hy).elim (fun z => by rw [hwc] at z; cases z) fun z => Or.inr (Nat.le_trans hb z)⟩, he⟩ (he ▸ hQ)).via (stp)
theorem callP (O : On l Z ws R own nm bytes maxL ret C T h cells slots) {i : Nat} {y : MethodName} {yb : ByteArray} {yl : Nat} {yr : Option FieldType} {rm : Room} {argsL rest : List Value} {wsc : List Addr} {Qc : Option Value → Heap → Prop} {ps : List FieldType} {rr : Option FieldType} {W c2 s2 : Nat} {a : Addr} {K0 : String} {ik : Nat}
    (hd : decode bytes pc = .ok (.invokevirtual i, 3)) (w1 : (Cond.methodLink own i y).before a0 Z = true) (w2 : (Cond.instanceMethod y).before a0 Z = true) (wp : (Cond.privateMethod y).before a0 Z = true) (wi : (Cond.instantiable y.cls ik).before a0 Z = true) (w3 : (Cond.initialized y.cls).before a0 Z = true) (w4 : (Cond.code y yb yl yr).before a0 Z = true) (hy : y.cls ≠ "java/lang/invoke/MethodHandle" ∧ y.cls ≠ "java/lang/invoke/VarHandle")
    (hM : Met l Z y yb yl yr [] rm (Value.ref a :: argsL).toArray wsc h Qc) (E : Exa Z h a K0) (hsz : Ls.size = maxL) (hpd : parseMethodDescriptor y.desc = some ⟨ps, rr⟩) (hlen : argsL.length = ps.length) (hst : st = argsL.reverse ++ .ref a :: rest) (hW : (rest.map fun v => v.category).sum ≤ W)
    (hf : rm.frames + 1 ≤ R.frames) (hl : W + (yl + 11) + rm.locals ≤ R.locals) (hc2 : cells + rm.cells = c2) (hs2 : slots + rm.slots = s2) (hcl : c2 ≤ R.cells) (hsl : s2 ≤ R.slots) (hws : ∀ x ∈ wsc, x ∈ ws ∨ C.s.heap.size ≤ x) (hq : pc + 3 = q)
    (K : ∀ v T' h', On l Z ws R own nm bytes maxL ret C T' h' c2 s2 → Keep h h' wsc → Qc v h' → Go C ws Q k n (T'.setTop (mkF C.m q Ls (v.toList ++ rest)))) : Go C ws Q k n (T.setTop (mkF C.m pc Ls st)) := by
  obtain ⟨⟨hx, hZ, rfl, r1, hown, r2⟩, ⟨locs, X, N⟩, eT⟩ := O; subst hq hc2 hs2
  obtain ⟨cI, kI, i1, i2, -, i4, -⟩ := Cond.instantiable_spec (mvT (args := C.args) hZ wi)
  have hpv : C.s.PrivateAt y := Cond.privateMethod_at (mvP (args := #[]) hZ wp)
  have hsel := selects_self_of_private i1 i2 (Bool.or_eq_false_iff.mp i4).1 hpv (mvT (args := C.args) hZ w2) hy
  obtain ⟨cq, q1, q2⟩ := E.cell
  obtain ⟨v, _, ⟨T', L', k', n'⟩, -, X', ⟨Lc, hQ, l', y', z'⟩, stp⟩ := X.privateBack hx (y := y) hown (mvT hZ w1) (mvT hZ w2) hsel hpv (mvT hZ w4) hy (backOf (W := W) (Q := Post wsc rm.cells h Qc) hM hZ w4 w3 hf hl) (g := mkF C.m pc Ls st) rfl (hsz.trans r1.symm) (Steps.refl _) (a := a) (by rw [eT]; exact q1) q2 (argsL := argsL) (rest := rest) (lenOf hpd hlen) hst (by show 2 * 0 + _ ≤ _; rw [Nat.mul_zero, Nat.zero_add]; exact hW) hd (fun _ _ => ⟨rfl, eT, hcl, hsl⟩)
  dsimp only [Pt.U, Pt.locs, Pt.cells, Pt.slots] at X' l' y' z' stp hQ
  subst l' y' z'
  obtain ⟨hF, hK, hE, hQ⟩ := hQ
  have hb : C.s.heap.size ≤ h.size := eT ▸ X.same.2.1
  exact (K v T' T'.heap ⟨⟨hx, hZ, rfl, r1, hown, r2⟩, ⟨_, X', N.app fun y hy => (hF y hy).elim (hws _) fun z => Or.inr (Nat.le_trans hb z)⟩, rfl⟩ hK hQ).via (stp)
theorem callP0 (O : On l Z ws R own nm bytes maxL ret C T h cells slots) {i : Nat} {y : MethodName} {yb : ByteArray} {yl : Nat} {yr : Option FieldType} {rm : Room} {argsL rest : List Value} {wsc : List Addr} {Qc : Option Value → Heap → Prop} {ps : List FieldType} {rr : Option FieldType} {W c2 s2 : Nat} {a : Addr} {K0 : String} {ik : Nat}
    (hd : decode bytes pc = .ok (.invokevirtual i, 3)) (w1 : (Cond.methodLink own i y).before a0 Z = true) (w2 : (Cond.instanceMethod y).before a0 Z = true) (wp : (Cond.privateMethod y).before a0 Z = true) (wi : (Cond.instantiable y.cls ik).before a0 Z = true) (w3 : (Cond.initialized y.cls).before a0 Z = true) (w4 : (Cond.code y yb yl yr).before a0 Z = true) (hy : y.cls ≠ "java/lang/invoke/MethodHandle" ∧ y.cls ≠ "java/lang/invoke/VarHandle")
    (hM : Met l Z y yb yl yr [] rm (Value.ref a :: argsL).toArray wsc h Qc) (E : Exa Z h a K0) (hsz : Ls.size = maxL) (hpd : parseMethodDescriptor y.desc = some ⟨ps, rr⟩) (hlen : argsL.length = ps.length) (hst : st = argsL.reverse ++ .ref a :: rest) (hW : (rest.map fun v => v.category).sum ≤ W)
    (hf : rm.frames + 1 ≤ R.frames) (hl : W + (yl + 11) + rm.locals ≤ R.locals) (hc2 : cells + rm.cells = c2) (hs2 : slots + rm.slots = s2) (hcl : c2 ≤ R.cells) (hsl : s2 ≤ R.slots) (hrc : rm.cells = 0) (hwc : wsc = []) (hq : pc + 3 = q)
    (K : ∀ v T', On l Z ws R own nm bytes maxL ret C T' h c2 s2 → Qc v h → Go C ws Q k n (T'.setTop (mkF C.m q Ls (v.toList ++ rest)))) : Go C ws Q k n (T.setTop (mkF C.m pc Ls st)) := by
  obtain ⟨⟨hx, hZ, rfl, r1, hown, r2⟩, ⟨locs, X, N⟩, eT⟩ := O; subst hq hc2 hs2
  obtain ⟨cI, kI, i1, i2, -, i4, -⟩ := Cond.instantiable_spec (mvT (args := C.args) hZ wi)
  have hpv : C.s.PrivateAt y := Cond.privateMethod_at (mvP (args := #[]) hZ wp)
  have hsel := selects_self_of_private i1 i2 (Bool.or_eq_false_iff.mp i4).1 hpv (mvT (args := C.args) hZ w2) hy
  obtain ⟨cq, q1, q2⟩ := E.cell
  obtain ⟨v, _, ⟨T', L', k', n'⟩, -, X', ⟨Lc, hQ, l', y', z'⟩, stp⟩ := X.privateBack hx (y := y) hown (mvT hZ w1) (mvT hZ w2) hsel hpv (mvT hZ w4) hy (backOf (W := W) (Q := Post wsc rm.cells h Qc) hM hZ w4 w3 hf hl) (g := mkF C.m pc Ls st) rfl (hsz.trans r1.symm) (Steps.refl _) (a := a) (by rw [eT]; exact q1) q2 (argsL := argsL) (rest := rest) (lenOf hpd hlen) hst (by show 2 * 0 + _ ≤ _; rw [Nat.mul_zero, Nat.zero_add]; exact hW) hd (fun _ _ => ⟨rfl, eT, hcl, hsl⟩)
  dsimp only [Pt.U, Pt.locs, Pt.cells, Pt.slots] at X' l' y' z' stp hQ
  subst l' y' z'
  obtain ⟨hF, hK, hE, hQ⟩ := hQ
  have hb : C.s.heap.size ≤ h.size := eT ▸ X.same.2.1
  have he : T'.heap = h := hE hrc hwc
  refine (K v T' ⟨⟨hx, hZ, rfl, r1, hown, r2⟩, ⟨_, X', N.app fun y hy => (hF y hy).elim (fun z => by rw [hwc] at z; cases z) fun z => Or.inr (Nat.le_trans hb z)⟩, he⟩ (he ▸ hQ)).via (stp)
theorem tltL {x y : Int64} (h : x < y) : ifCond.holds .lt (lcmpW x y) = true ∧ ifCond.holds .ge (lcmpW x y) = false ∧ ifCond.holds .gt (lcmpW y x) = true ∧ ifCond.holds .le (lcmpW y x) = false := by
  rw [if0, if0, if0, if0]
  exact ⟨(tlt ((lw_lt x y).mpr h)).1, (tlt ((lw_lt x y).mpr h)).2.1, (tlt ((lw_gt y x).mpr h)).2.2.1, (tlt ((lw_gt y x).mpr h)).2.2.2⟩
theorem fltL {x y : Int64} (h : ¬ x < y) : ifCond.holds .lt (lcmpW x y) = false ∧ ifCond.holds .ge (lcmpW x y) = true ∧ ifCond.holds .gt (lcmpW y x) = false ∧ ifCond.holds .le (lcmpW y x) = true := by
  rw [if0, if0, if0, if0]
  have h1 : ¬ lcmpW x y < 0 := fun q => h ((lw_lt x y).mp q)
  have h2 : ¬ 0 < lcmpW y x := fun q => h ((lw_gt y x).mp q)
  exact ⟨(flt h1).1, (flt h1).2.1, (flt h2).2.2.1, (flt h2).2.2.2⟩
theorem teqL {x y : Int64} (h : x = y) : ifCond.holds .eq (lcmpW x y) = true ∧ ifCond.holds .ne (lcmpW x y) = false := by
  rw [if0, if0]; exact teq ((lw_eq x y).mpr h)
theorem feqL {x y : Int64} (h : ¬ x = y) : ifCond.holds .eq (lcmpW x y) = false ∧ ifCond.holds .ne (lcmpW x y) = true := by
  rw [if0, if0]; exact feq fun q => h ((lw_eq x y).mp q)
theorem tlt0 {x : Int32} (h : x < 0) : ifCond.holds .lt x = true ∧ ifCond.holds .ge x = false := by rw [if0, if0]; exact ⟨(tlt h).1, (tlt h).2.1⟩
theorem flt0 {x : Int32} (h : ¬ x < 0) : ifCond.holds .lt x = false ∧ ifCond.holds .ge x = true := by rw [if0, if0]; exact ⟨(flt h).1, (flt h).2.1⟩
theorem tgt0 {x : Int32} (h : 0 < x) : ifCond.holds .gt x = true ∧ ifCond.holds .le x = false := by rw [if0, if0]; exact ⟨(tlt h).2.2.1, (tlt h).2.2.2⟩
theorem fgt0 {x : Int32} (h : ¬ 0 < x) : ifCond.holds .gt x = false ∧ ifCond.holds .le x = true := by rw [if0, if0]; exact ⟨(flt h).2.2.1, (flt h).2.2.2⟩
theorem teq0 {x : Int32} (h : x = 0) : ifCond.holds .eq x = true ∧ ifCond.holds .ne x = false := by rw [if0, if0]; exact teq h
theorem feq0 {x : Int32} (h : ¬ x = 0) : ifCond.holds .eq x = false ∧ ifCond.holds .ne x = true := by rw [if0, if0]; exact feq h
end Steps
end Jvm.OwnW

namespace Jvm.OwnW
open Sem ClassFile Op Lib Jvm.Free Jvm.Stand Jvm.LawKit Jvm.RoadKit
/-- an array of n places of the kind ty; place j holds f j -/
def Ar (Z : State) (h : Heap) (a : Addr) (ty : FieldType) (n : Nat) (f : Nat → Value) : Prop := ∃ cl : Cell, Arr Z h a cl ty ∧ cl.slots.size = n ∧ n < 2147483648 ∧ ∀ j, j < n → cl.slots[j]? = some (f j)
/-- the values of a list by their places -/
def lf (vs : List Value) : Nat → Value := fun j => vs.getD j .null
def updV (f : Nat → Value) (i : Nat) (v : Value) : Nat → Value := fun j => if j = i then v else f j
section Arrs
variable {Z : State} {h h' : Heap} {a b : Addr} {ty : FieldType} {n i sl : Nat} {f g : Nat → Value} {v : Value} {ws : List Addr} {vs : List Value}
theorem Ar.lt (F : Ar Z h a ty n f) : a < h.size := by obtain ⟨_, A, -⟩ := F; exact A.lt
theorem Ar.ext (F : Ar Z h a ty n f) (E : Ext h h') : Ar Z h' a ty n f := by obtain ⟨c, A, r⟩ := F; exact ⟨c, A.ext E, r⟩
theorem Ar.keep (F : Ar Z h a ty n f) (K : Keep h h' ws) (q : a ∉ ws) : Ar Z h' a ty n f := by obtain ⟨c, A, r⟩ := F; exact ⟨c, ⟨K.2.1 a c A.1 q, A.2⟩, r⟩
theorem Ar.other (F : Ar Z h b ty n f) (W : Wr h h' a sl v) (q : b ≠ a) : Ar Z h' b ty n f := by obtain ⟨c, A, r⟩ := F; exact ⟨c, A.other W q, r⟩
theorem Ar.congr (F : Ar Z h a ty n f) (q : ∀ j, j < n → f j = g j) : Ar Z h a ty n g := by obtain ⟨c, A, r1, r2, r3⟩ := F; exact ⟨c, A, r1, r2, fun j hj => by rw [r3 j hj, q j hj]⟩
theorem Ar.small (F : Ar Z h a ty n f) : n < 2147483648 := by obtain ⟨c, A, r1, r2, r3⟩ := F; exact r2
theorem toNat_of {z : Int32} {n : Nat} (hz : z.toInt = n) : z.toNatClampNeg = n := by simp only [Int32.toNatClampNeg, hz, Int.toNat_natCast]
theorem Ar.new {k : ClassId} {z : Int32} (A : Arr Z h a (newA k ty z) ty) (hz : z.toInt = n) : Ar Z h a ty n (fun _ => defaultValue ty) := by
  have q := toNat_of hz
  refine ⟨_, A, by rw [sz_new, q], ?_, fun j hj => ?_⟩
  · have := z.toInt_lt; omega
  · simp [newA, q, hj]
theorem Ar.set (F : Ar Z h a ty n f) (W : Wr h h' a i v) (hi : i < n) : Ar Z h' a ty n (updV f i v) := by
  obtain ⟨c, A, r1, r2, r3⟩ := F
  refine ⟨_, A.same W, by rw [sz_set]; exact r1, r2, fun j hj => ?_⟩
  by_cases e : j = i
  · subst e; simp [Cell.setSlot, updV, r1, hi]
  · simp only [Cell.setSlot, updV, if_neg e]; rw [Array.getElem?_setIfInBounds_ne (Ne.symm e)]; exact r3 j hj
theorem Ar.setL (F : Ar Z h a ty n (lf vs)) (W : Wr h h' a i v) (hi : i < n) (hl : i < vs.length) : Ar Z h' a ty n (lf (vs.set i v)) := (F.set W hi).congr fun j _ => by
  simp only [updV, lf, List.getD_eq_getElem?_getD]
  by_cases e : j = i
  · subst e; simp [hl]
  · rw [if_neg e, List.getElem?_set_ne (Ne.symm e)]
theorem lf_rep (n : Nat) (d : Value) (j : Nat) (hj : j < n) : d = lf (List.replicate n d) j := by simp [lf, hj]
theorem updV_lf (L : List Value) (hi : i < L.length) : updV (lf L) i v = lf (L.set i v) := by
  funext j
  simp only [updV, lf, List.getD_eq_getElem?_getD]
  by_cases e : j = i
  · subst e; simp [hi]
  · rw [if_neg e, List.getElem?_set_ne (Ne.symm e)]
theorem fill_step (N : Nat → Value) (d : Value) (i j : Nat) : updV (fun j => if j < i then N j else d) i (N i) j = if j < i + 1 then N j else d := by
  simp only [updV]
  by_cases e : j = i
  · subst e; rw [if_pos rfl, if_pos (Nat.lt_succ_self j)]
  · rw [if_neg e]
    by_cases q : j < i
    · rw [if_pos q, if_pos (by omega)]
    · rw [if_neg q, if_neg (by omega)]
theorem Ar.of_arr' {cl : Cell} (A : Arr Z h a cl ty) (hn : cl.slots.size = n) (h31 : n < 2147483648) : Ar Z h a ty n (fun j => (cl.slots[j]?).getD .null) :=
  ⟨cl, A, hn, h31, fun j hj => by simp [hn, hj]⟩
theorem staKeep1 {D n d K0 : String} (F : Sta Z h D n d v) (K : Keep h h' [a]) (E : Exa Z h a K0) : Sta Z h' D n d v := by
  obtain ⟨cf, i, k, f, st, cell, h1, h2, h3, h4, h5, h6, r⟩ := F
  refine ⟨cf, i, k, f, st, cell, h1, h2, h3, h4, K.2.1 _ _ h5 (fun q => ?_), h6, r⟩
  obtain ⟨c, _, e1, -, -, e4, -⟩ := E
  cases List.mem_singleton.mp q
  cases h5.symm.trans e1
  rw [e4] at h6; cases h6
theorem Ar.of_arr {cl : Cell} (A : Arr Z h a cl ty) (hn : cl.slots.size = n) (h31 : n < 2147483648) : ∃ f, Ar Z h a ty n f :=
  ⟨fun j => cl.slots.getD j .null, cl, A, hn, h31, fun j hj => by simp [Array.getD, hn, hj]⟩
theorem staKeep {D n d : String} (F : Sta Z h D n d v) (K : Keep h h' []) : Sta Z h' D n d v := by
  obtain ⟨cf, i, k, f, st, cell, h1, h2, h3, h4, h5, r⟩ := F
  exact ⟨cf, i, k, f, st, cell, h1, h2, h3, h4, K.2.1 _ _ h5 (fun q => nomatch q), r⟩
theorem lenEq {t : Term} {args : Array Value} {s : State} {cl : Cell} {z : Int32} (et : t.eval args s none [] s = some (.ref a)) (ha : s.arrayAt? a = some cl) (hc : (Cond.eq (.length t) (.int z)).value args s none s [] = some true) : cl.slots.size.toInt32 = z ∧ cl.slots.size < 2147483648 := by
  by_cases hb : cl.slots.size < 2 ^ 31
  · exact ⟨gotT (Cond.eq_ints (len_f et ha hb) (Term.int_eval z)) hc, hb⟩
  · obtain ⟨x, y, q1, -⟩ := cmp_v (Or.inl hc)
    simp [Term.eval, et, ha, hb] at q1
theorem inb {z : Int32} {m : Nat} (hz : z.toInt = (i : Int)) (hm : m = n) (hi : i < n) : ¬ (z < 0 ∨ m ≤ z.toNatClampNeg) := by
  rw [toNat_of hz, Int32.lt_iff_toInt_lt, hz, hm]
  have : (0 : Int32).toInt = 0 := rfl
  rw [this]; omega
theorem len32 {m : Nat} {z : Int32} (hm : m = n) (hn : n < 2147483648) (hz : z.toInt = n) : m.toInt32 = z := by
  apply Int32.toInt_inj.mp; rw [hz, hm]; exact len_toInt hn
end Arrs
section ArrSteps
variable {l : Launch} {Z : State} {a0 : Array Value} {ws : List Addr} {R : Room} {own nm : String} {bytes : ByteArray} {maxL : Nat} {ret : Option FieldType} {C : Ctx} {T : State} {h : Heap} {cells slots k n : Nat} {Q : Option Value → Heap → Prop} {pc q : Nat} {Ls L' : Array Slot} {st : List Value}
  {a : Addr} {j : Int32} {i N : Nat} {f : Nat → Value} {v : Value} {ty : FieldType}
theorem ialA (O : On l Z ws R own nm bytes maxL ret C T h cells slots) (hd : decode bytes pc = .ok (.iaload, 1)) (V : Ar Z h a .int N f) (hj : j.toInt = (i : Int)) (hi : i < N) (hv : f i = v) (hq : pc + 1 = q)
    (K : Go C ws Q k n (T.setTop (mkF C.m q Ls (v :: st)))) : Go C ws Q k n (T.setTop (mkF C.m pc Ls (.int j :: .ref a :: st))) := by
  obtain ⟨c, A, r1, r2, r3⟩ := V
  exact iaload O hd A (inb hj r1 hi) (by rw [toNat_of hj, ← hv]; exact r3 i hi) hq K
theorem lalA (O : On l Z ws R own nm bytes maxL ret C T h cells slots) (hd : decode bytes pc = .ok (.laload, 1)) (V : Ar Z h a .long N f) (hj : j.toInt = (i : Int)) (hi : i < N) (hv : f i = v) (hq : pc + 1 = q)
    (K : Go C ws Q k n (T.setTop (mkF C.m q Ls (v :: st)))) : Go C ws Q k n (T.setTop (mkF C.m pc Ls (.int j :: .ref a :: st))) := by
  obtain ⟨c, A, r1, r2, r3⟩ := V
  exact laload O hd A (inb hj r1 hi) (by rw [toNat_of hj, ← hv]; exact r3 i hi) hq K
theorem balA (O : On l Z ws R own nm bytes maxL ret C T h cells slots) (hd : decode bytes pc = .ok (.baload, 1)) (V : Ar Z h a .byte N f) (hj : j.toInt = (i : Int)) (hi : i < N) (hv : f i = v) (hq : pc + 1 = q)
    (K : Go C ws Q k n (T.setTop (mkF C.m q Ls (v :: st)))) : Go C ws Q k n (T.setTop (mkF C.m pc Ls (.int j :: .ref a :: st))) := by
  obtain ⟨c, A, r1, r2, r3⟩ := V
  exact baload O hd A (inb hj r1 hi) (by rw [toNat_of hj, ← hv]; exact r3 i hi) hq K
theorem aalA (O : On l Z ws R own nm bytes maxL ret C T h cells slots) (hd : decode bytes pc = .ok (.aaload, 1)) (V : Ar Z h a ty N f) (hty : ty.isReference = true) (hj : j.toInt = (i : Int)) (hi : i < N) (hv : f i = v) (hq : pc + 1 = q)
    (K : Go C ws Q k n (T.setTop (mkF C.m q Ls (v :: st)))) : Go C ws Q k n (T.setTop (mkF C.m pc Ls (.int j :: .ref a :: st))) := by
  obtain ⟨c, A, r1, r2, r3⟩ := V
  exact aaload O hd A hty (inb hj r1 hi) (by rw [toNat_of hj, ← hv]; exact r3 i hi) hq K
theorem lenA (O : On l Z ws R own nm bytes maxL ret C T h cells slots) (hd : decode bytes pc = .ok (.arraylength, 1)) (V : Ar Z h a ty N f) {z : Int32} (hz : z.toInt = N) (hq : pc + 1 = q)
    (K : Go C ws Q k n (T.setTop (mkF C.m q Ls (.int z :: st)))) : Go C ws Q k n (T.setTop (mkF C.m pc Ls (.ref a :: st))) := by
  obtain ⟨c, A, r1, r2, r3⟩ := V
  exact arraylength O hd A (len32 r1 r2 hz) hq K
theorem iasA (O : On l Z ws R own nm bytes maxL ret C T h cells slots) {x : Int32} (hd : decode bytes pc = .ok (.iastore, 1)) (V : Ar Z h a .int N f) (hj : j.toInt = (i : Int)) (hi : i < N) (ha : a ∈ ws ∨ C.s.heap.size ≤ a) (hq : pc + 1 = q)
    (K : ∀ T' h', On l Z ws R own nm bytes maxL ret C T' h' cells slots → Wr h h' a i (.int x) → Go C ws Q k n (T'.setTop (mkF C.m q Ls st))) : Go C ws Q k n (T.setTop (mkF C.m pc Ls (.int x :: .int j :: .ref a :: st))) := by
  obtain ⟨c, A, r1, r2, r3⟩ := V
  exact iastore O hd A (inb hj r1 hi) ha hq fun T' h' O' W => K T' h' O' (toNat_of hj ▸ W)
theorem lasA (O : On l Z ws R own nm bytes maxL ret C T h cells slots) {x : Int64} (hd : decode bytes pc = .ok (.lastore, 1)) (V : Ar Z h a .long N f) (hj : j.toInt = (i : Int)) (hi : i < N) (ha : a ∈ ws ∨ C.s.heap.size ≤ a) (hq : pc + 1 = q)
    (K : ∀ T' h', On l Z ws R own nm bytes maxL ret C T' h' cells slots → Wr h h' a i (.long x) → Go C ws Q k n (T'.setTop (mkF C.m q Ls st))) : Go C ws Q k n (T.setTop (mkF C.m pc Ls (.long x :: .int j :: .ref a :: st))) := by
  obtain ⟨c, A, r1, r2, r3⟩ := V
  exact lastore O hd A (inb hj r1 hi) ha hq fun T' h' O' W => K T' h' O' (toNat_of hj ▸ W)
theorem basA (O : On l Z ws R own nm bytes maxL ret C T h cells slots) {x y : Int32} (hd : decode bytes pc = .ok (.bastore, 1)) (V : Ar Z h a .byte N f) (hj : j.toInt = (i : Int)) (hi : i < N) (ha : a ∈ ws ∨ C.s.heap.size ≤ a) (hy : x.toInt8.toInt32 = y) (hq : pc + 1 = q)
    (K : ∀ T' h', On l Z ws R own nm bytes maxL ret C T' h' cells slots → Wr h h' a i (.int y) → Go C ws Q k n (T'.setTop (mkF C.m q Ls st))) : Go C ws Q k n (T.setTop (mkF C.m pc Ls (.int x :: .int j :: .ref a :: st))) := by
  obtain ⟨c, A, r1, r2, r3⟩ := V
  subst hy
  exact bastore O hd A (inb hj r1 hi) ha hq fun T' h' O' W => K T' h' O' (toNat_of hj ▸ W)
theorem newA' (O : On l Z ws R own nm bytes maxL ret C T h cells slots) {aty : ArrayType} {c2 s2 : Nat} (hd : decode bytes pc = .ok (.newarray aty, 2)) (ht : newarray.typeOf aty = ty) (w : (Cond.arrayClass ty).before a0 Z = true) {z : Int32} (hz : z.toInt = N) {cap : Nat} (hcap : N ≤ cap) (hb : cap * 8 ≤ 536870912) (hc2 : cells + 1 = c2) (hs2 : slots + cap = s2) (hc : c2 ≤ R.cells) (hl : s2 ≤ R.slots) (hq : pc + 2 = q)
    (K : ∀ a T' h', a = h.size → C.s.heap.size ≤ a → On l Z ws R own nm bytes maxL ret C T' h' c2 s2 → Ext h h' → Ar Z h' a ty N (fun _ => defaultValue ty) → Go C ws Q k n (T'.setTop (mkF C.m q Ls (.ref a :: st)))) : Go C ws Q k n (T.setTop (mkF C.m pc Ls (.int z :: st))) := by
  subst ht
  refine newP O hd w ?_ (by rw [toNat_of hz]; exact hcap) hb hc2 hs2 hc hl hq fun a T' h' cA e1 e2 O' E A => K a T' h' e1 e2 O' E (Ar.new A hz)
  rw [Int32.lt_iff_toInt_lt, hz]
  have : (0 : Int32).toInt = 0 := rfl
  rw [this]; omega
end ArrSteps
end Jvm.OwnW

namespace Jvm.OwnW
open Jvm.RoadKit
theorem add32 {x y : Int32} (h1 : -2147483648 ≤ x.toInt + y.toInt) (h2 : x.toInt + y.toInt < 2147483648) : (x + y).toInt = x.toInt + y.toInt := by
  have := c_iadd x y; have := rng32 (x + y); omega
theorem sub32 {x y : Int32} (h1 : -2147483648 ≤ x.toInt - y.toInt) (h2 : x.toInt - y.toInt < 2147483648) : (x - y).toInt = x.toInt - y.toInt := by
  have := c_isub x y; have := rng32 (x - y); omega
theorem mul32 {x y : Int32} (h1 : -2147483648 ≤ x.toInt * y.toInt) (h2 : x.toInt * y.toInt < 2147483648) : (x * y).toInt = x.toInt * y.toInt := by
  have := c_imul x y; have := rng32 (x * y); omega
theorem add64 {x y : Int64} (h1 : -9223372036854775808 ≤ x.toInt + y.toInt) (h2 : x.toInt + y.toInt < 9223372036854775808) : (x + y).toInt = x.toInt + y.toInt := by
  have := c_ladd x y; have := rng64 (x + y); omega
theorem sub64 {x y : Int64} (h1 : -9223372036854775808 ≤ x.toInt - y.toInt) (h2 : x.toInt - y.toInt < 9223372036854775808) : (x - y).toInt = x.toInt - y.toInt := by
  have := c_lsub x y; have := rng64 (x - y); omega
theorem mul64 {x y : Int64} (h1 : -9223372036854775808 ≤ x.toInt * y.toInt) (h2 : x.toInt * y.toInt < 9223372036854775808) : (x * y).toInt = x.toInt * y.toInt := by
  have := c_lmul x y; have := rng64 (x * y); omega
theorem ne0_32 {z : Int32} (h : 0 < z.toInt) : z ≠ 0 := fun e => by subst e; exact absurd h (by decide)
theorem ne0_64 {z : Int64} (h : 0 < z.toInt) : z ≠ 0 := fun e => by subst e; exact absurd h (by decide)
theorem lt32 {x y : Int32} (h : x.toInt < y.toInt) : x < y := Int32.lt_iff_toInt_lt.mpr h
theorem nlt32 {x y : Int32} (h : y.toInt ≤ x.toInt) : ¬ x < y := fun q => by rw [Int32.lt_iff_toInt_lt] at q; omega
theorem lt64 {x y : Int64} (h : x.toInt < y.toInt) : x < y := Int64.lt_iff_toInt_lt.mpr h
theorem nlt64 {x y : Int64} (h : y.toInt ≤ x.toInt) : ¬ x < y := fun q => by rw [Int64.lt_iff_toInt_lt] at q; omega
theorem eq32 {x y : Int32} (h : x.toInt = y.toInt) : x = y := Int32.toInt_inj.mp h
theorem ne32 {x y : Int32} (h : x.toInt ≠ y.toInt) : ¬ x = y := fun e => h (congrArg _ e)
theorem ne64 {x y : Int64} (h : x.toInt ≠ y.toInt) : ¬ x = y := fun e => h (congrArg _ e)
theorem inc32 {z : Int32} {i : Nat} (hi : z.toInt = (i : Int)) (hb : i < 2147483647) : (z + 1).toInt = ((i + 1 : Nat) : Int) := by
  have h1 : (1 : Int32).toInt = 1 := rfl
  rw [add32 (by omega) (by omega)]; omega
theorem dec32 {z : Int32} {i : Nat} (hi : z.toInt = (i : Int)) (hb : 1 ≤ i) : (z - 1).toInt = ((i - 1 : Nat) : Int) := by
  have h1 : (1 : Int32).toInt = 1 := rfl
  have := rng32 z
  rw [sub32 (by omega) (by omega)]; omega
theorem rem64 {x y : Int64} {d : Int} (hy : y.toInt = d) (hx : 0 ≤ x.toInt) : (x % y).toInt = x.toInt % d := by rw [Int64.toInt_mod, hy]; exact (tr _ _).1 hx
theorem rem32 {x y : Int32} {d : Int} (hy : y.toInt = d) (hx : 0 ≤ x.toInt) : (x % y).toInt = x.toInt % d := by rw [Int32.toInt_mod, hy]; exact (tr _ _).1 hx
theorem eq64 {x y : Int64} (h : x.toInt = y.toInt) : x = y := Int64.toInt_inj.mp h
/-- (s & 0x7fffffff) % z for a z above 0 -/
theorem rem_in (s z : Int32) (hz : 0 < z.toInt) : ∃ i : Nat, ((s &&& 2147483647) % z).toInt = (i : Int) ∧ (i : Int) < z.toInt := by
  have h1 := c_mask s 2147483647 31 (by decide) (by decide)
  have h2 := (c_iremV (s &&& 2147483647) z).1 (by omega) hz
  exact ⟨((s &&& 2147483647) % z).toInt.toNat, by omega, by omega⟩
theorem b8 (x : Int32) : x.toInt8.toInt32.toInt8.toInt32 = x.toInt8.toInt32 := by
  have h := c_i2b x; have h2 := c_i2b x.toInt8.toInt32
  apply Int32.toInt_inj.mp; omega
theorem lf_int (L : List Int32) (j : Nat) (hj : j < L.length) : lf (L.map Value.int) j = .int (L.getD j 0) := by
  simp [lf, List.getD_eq_getElem?_getD, hj]
theorem lf_long (L : List Int64) (j : Nat) (hj : j < L.length) : lf (L.map Value.long) j = .long (L.getD j 0) := by
  simp [lf, List.getD_eq_getElem?_getD, hj]
end Jvm.OwnW

namespace Jvm.OwnW
open Sem ClassFile Op Lib Jvm.Free Jvm.Stand Jvm.LawKit Jvm.RoadKit
/-- the Class object of the class K0 has been made: it is a -/
def MirO (Z : State) (K0 : String) (a : Addr) : Prop := ∃ c k, Z.vm.findClass K0 = some c ∧ Z.vm.classes[c]? = some k ∧ k.mirror = some a
theorem catR {v : Value} (h : v.isRef = true) : v.category = 1 := by cases v <;> first | rfl | cases h
theorem isRef_ite {c : Prop} [Decidable c] {a b : Value} (ha : a.isRef = true) (hb : b.isRef = true) : (if c then a else b).isRef = true := by split <;> assumption
theorem ite_val {α : Type} {c : Prop} [Decidable c] {a b v : α} (h1 : c → a = v) (h2 : ¬ c → b = v) : (if c then a else b) = v := by
  by_cases h : c
  · rw [if_pos h]; exact h1 h
  · rw [if_neg h]; exact h2 h
section StepsR
variable {l : Launch} {Z : State} {a0 : Array Value} {ws : List Addr} {R : Room} {own nm : String} {bytes : ByteArray} {maxL : Nat} {ret : Option FieldType} {C : Ctx} {T : State} {h : Heap} {cells slots k n : Nat} {Q : Option Value → Heap → Prop} {pc q : Nat} {Ls L' : Array Slot} {st : List Value}
theorem ldcM (O : On l Z ws R own nm bytes maxL ret C T h cells slots) {i : Nat} {K0 : String} {a : Addr} (hd : decode bytes pc = .ok (.ldc i, 2)) (w : (Cond.classLink own i K0).before a0 Z = true) (M : MirO Z K0 a) (hq : pc + 2 = q)
    (K : ∀ T', On l Z ws R own nm bytes maxL ret C T' h cells slots → Go C ws Q k n (T'.setTop (mkF C.m q Ls (.ref a :: st)))) : Go C ws Q k n (T.setTop (mkF C.m pc Ls st)) := by
  obtain ⟨⟨hx, hZ, rfl, r1, hown, r2⟩, ⟨_, X, N⟩, eT⟩ := O; subst hq
  obtain ⟨c, kc, m1, m2, m3⟩ := M
  obtain ⟨k', q1, q2⟩ := hZ.alike.2.2 _ _ m2
  have q3 : C.s.vm.findClass K0 = some c := by rw [hZ.alike.findClass]; exact m1
  have q4 : k'.mirror = some a := by rw [q2]; exact m3
  have hev : (Term.mirror K0).eval C.args C.s none [] C.s = some (.ref a) := by simp [Term.eval, q3, q1, q4]
  obtain ⟨vm', X', stp⟩ := X.ldcMirror hx hown (mvT hZ w) hev (g := mkF C.m pc Ls st) rfl hd
  exact (K _ ⟨⟨hx, hZ, rfl, r1, hown, r2⟩, ⟨_, X', N⟩, eT⟩).of fun _ kk => stp _ kk
theorem lswIn (O : On l Z ws R own nm bytes maxL ret C T h cells slots) {df v : Int} {prs : Array (Int × Int)} {ln : Nat} {x : Int32} {o : Int} (hd : decode bytes pc = .ok (.lookupswitch df prs, ln)) (hs : (prs.toList.zip (prs.toList.drop 1)).all (fun (a, next) => a.1 < next.1) = true) (hf : prs.find? (·.1 == x.toInt) = some (v, o)) (h0 : 0 ≤ (pc : Int) + o) (hq : ((pc : Int) + o).toNat = q)
    (K : Go C ws Q k n (T.setTop (mkF C.m q Ls st))) : Go C ws Q k n (T.setTop (mkF C.m pc Ls (.int x :: st))) := by
  obtain ⟨⟨hx, -, rfl, -⟩, ⟨_, X, -⟩, -⟩ := O; subst hq
  refine K.of fun _ kk => ?_
  jvm_step X.here [X.here.top, hx, hd, lookupswitch.wp_whole, hf, h0]
  refine ⟨by simpa using hs, kk⟩
theorem lswOut (O : On l Z ws R own nm bytes maxL ret C T h cells slots) {o : Int} {prs : Array (Int × Int)} {ln : Nat} {x : Int32} (hd : decode bytes pc = .ok (.lookupswitch o prs, ln)) (hs : (prs.toList.zip (prs.toList.drop 1)).all (fun (a, next) => a.1 < next.1) = true) (hf : prs.find? (·.1 == x.toInt) = none) (h0 : 0 ≤ (pc : Int) + o) (hq : ((pc : Int) + o).toNat = q)
    (K : Go C ws Q k n (T.setTop (mkF C.m q Ls st))) : Go C ws Q k n (T.setTop (mkF C.m pc Ls (.int x :: st))) := by
  obtain ⟨⟨hx, -, rfl, -⟩, ⟨_, X, -⟩, -⟩ := O; subst hq
  refine K.of fun _ kk => ?_
  jvm_step X.here [X.here.top, hx, hd, lookupswitch.wp_whole, hf, h0]
  refine ⟨by simpa using hs, kk⟩
theorem castY (O : On l Z ws R own nm bytes maxL ret C T h cells slots) {i : Nat} {K0 : String} {a : Addr} (hd : decode bytes pc = .ok (.checkcast i, 3)) (w : (Cond.classLink own i K0).before a0 Z = true) (F : Ins Z h a K0 true) (hq : pc + 3 = q)
    (K : ∀ T', On l Z ws R own nm bytes maxL ret C T' h cells slots → Go C ws Q k n (T'.setTop (mkF C.m q Ls (.ref a :: st)))) : Go C ws Q k n (T.setTop (mkF C.m pc Ls (.ref a :: st))) := by
  obtain ⟨⟨hx, hZ, rfl, r1, hown, r2⟩, ⟨_, X, N⟩, eT⟩ := O; subst hq
  obtain ⟨T', X', e', stp⟩ := Jvm.RoadKit.castY X hx hZ hown w eT F (g := mkF C.m pc Ls (.ref a :: st)) rfl rfl hd
  exact (K T' ⟨⟨hx, hZ, rfl, r1, hown, r2⟩, ⟨_, X', N⟩, e'⟩).of fun _ kk => stp _ kk
theorem instY (O : On l Z ws R own nm bytes maxL ret C T h cells slots) {i : Nat} {K0 : String} {a : Addr} (hd : decode bytes pc = .ok (.instanceof i, 3)) (w : (Cond.classLink own i K0).before a0 Z = true) (F : Ins Z h a K0 true) (hq : pc + 3 = q)
    (K : ∀ T', On l Z ws R own nm bytes maxL ret C T' h cells slots → Go C ws Q k n (T'.setTop (mkF C.m q Ls (.int 1 :: st)))) : Go C ws Q k n (T.setTop (mkF C.m pc Ls (.ref a :: st))) := by
  obtain ⟨⟨hx, hZ, rfl, r1, hown, r2⟩, ⟨_, X, N⟩, eT⟩ := O; subst hq
  obtain ⟨T', X', e', stp⟩ := Jvm.RoadKit.instY X hx hZ hown w eT F (g := mkF C.m pc Ls (.ref a :: st)) rfl rfl hd
  exact (K T' ⟨⟨hx, hZ, rfl, r1, hown, r2⟩, ⟨_, X', N⟩, e'⟩).of fun _ kk => stp _ kk
end StepsR
end Jvm.OwnW
namespace Jvm.OwnW
open Sem ClassFile Op Lib Jvm.Free Jvm.Stand Jvm.LawKit Jvm.RoadKit
/-- an array whose own class is known too -/
def ArC (Z : State) (h : Heap) (a : Addr) (ty : FieldType) (n : Nat) (f : Nat → Value) (cA : ClassId) : Prop := ∃ cl : Cell, Arr Z h a cl ty ∧ cl.cls = cA ∧ cl.slots.size = n ∧ n < 2147483648 ∧ ∀ j, j < n → cl.slots[j]? = some (f j)
section ArrsC
variable {Z : State} {h h' : Heap} {a b : Addr} {ty : FieldType} {n i sl : Nat} {f g : Nat → Value} {v : Value} {ws : List Addr} {cA : ClassId}
theorem ArC.ar (F : ArC Z h a ty n f cA) : Ar Z h a ty n f := by obtain ⟨c, A, -, r⟩ := F; exact ⟨c, A, r⟩
theorem ArC.lt (F : ArC Z h a ty n f cA) : a < h.size := F.ar.lt
theorem ArC.ext (F : ArC Z h a ty n f cA) (E : Ext h h') : ArC Z h' a ty n f cA := by obtain ⟨c, A, r⟩ := F; exact ⟨c, A.ext E, r⟩
theorem ArC.keep (F : ArC Z h a ty n f cA) (K : Keep h h' ws) (q : a ∉ ws) : ArC Z h' a ty n f cA := by obtain ⟨c, A, r⟩ := F; exact ⟨c, ⟨K.2.1 a c A.1 q, A.2⟩, r⟩
theorem ArC.other (F : ArC Z h b ty n f cA) (W : Wr h h' a sl v) (q : b ≠ a) : ArC Z h' b ty n f cA := by obtain ⟨c, A, r⟩ := F; exact ⟨c, A.other W q, r⟩
theorem ArC.new {z : Int32} (A : Arr Z h a (newA cA ty z) ty) (hz : z.toInt = n) : ArC Z h a ty n (fun _ => defaultValue ty) cA := by
  have q := toNat_of hz
  refine ⟨_, A, rfl, by rw [sz_new, q], ?_, fun j hj => ?_⟩
  · have := z.toInt_lt; omega
  · simp [newA, q, hj]
theorem ArC.set (F : ArC Z h a ty n f cA) (W : Wr h h' a i v) (hi : i < n) : ArC Z h' a ty n (updV f i v) cA := by
  obtain ⟨c, A, rc, r1, r2, r3⟩ := F
  refine ⟨_, A.same W, rc, by rw [sz_set]; exact r1, r2, fun j hj => ?_⟩
  by_cases e : j = i
  · subst e; simp [Cell.setSlot, updV, r1, hi]
  · simp only [Cell.setSlot, updV, if_neg e]; rw [Array.getElem?_setIfInBounds_ne (Ne.symm e)]; exact r3 j hj
end ArrsC
section StepsC
variable {l : Launch} {Z : State} {a0 : Array Value} {ws : List Addr} {R : Room} {own nm : String} {bytes : ByteArray} {maxL : Nat} {ret : Option FieldType} {C : Ctx} {T : State} {h : Heap} {cells slots k n : Nat} {Q : Option Value → Heap → Prop} {pc q : Nat} {Ls L' : Array Slot} {st : List Value}
  {a : Addr} {j : Int32} {i N : Nat} {f : Nat → Value} {v : Value} {ty : FieldType}
theorem nneg {z : Int32} (hz : z.toInt = (N : Int)) : ¬ z < 0 := by
  rw [Int32.lt_iff_toInt_lt, hz]
  have : (0 : Int32).toInt = 0 := rfl
  rw [this]; omega
theorem newAE (O : On l Z ws R own nm bytes maxL ret C T h cells slots) {aty : ArrayType} {c2 s2 : Nat} {ad : String} (hd : decode bytes pc = .ok (.newarray aty, 2)) (ht : newarray.typeOf aty = ty) (had : "[" ++ ty.toString = ad) (w : (Cond.arrayClass ty).before a0 Z = true) {z : Int32} (hz : z.toInt = N) {cap : Nat} (hcap : N ≤ cap) (hb : cap * 8 ≤ 536870912) (hc2 : cells + 1 = c2) (hs2 : slots + cap = s2) (hc : c2 ≤ R.cells) (hl : s2 ≤ R.slots) (hq : pc + 2 = q)
    (K : ∀ a T' h', a = h.size → C.s.heap.size ≤ a → On l Z ws R own nm bytes maxL ret C T' h' c2 s2 → Ext h h' → Ar Z h' a ty N (fun _ => defaultValue ty) → Exa Z h' a ad → Go C ws Q k n (T'.setTop (mkF C.m q Ls (.ref a :: st)))) : Go C ws Q k n (T.setTop (mkF C.m pc Ls (.int z :: st))) := by
  subst ht
  obtain ⟨⟨hx, hZ, rfl, r1, hown, r2⟩, ⟨_, X, N'⟩, eT⟩ := O; subst hq hc2 hs2
  obtain ⟨T', h', cA, X', e', E, A, Ex, stp⟩ := Jvm.RoadKit.newPE X hx hZ w eT (g := mkF C.m pc Ls (.int z :: st)) rfl hd rfl (nneg hz) (by rw [toNat_of hz]; exact hcap) hb hc hl had
  exact (K _ T' h' rfl (eT ▸ X.same.2.1) ⟨⟨hx, hZ, rfl, r1, hown, r2⟩, ⟨_, X', N'⟩, e'⟩ E (Ar.new A hz) Ex).of fun _ kk => stp _ kk
theorem newRO (O : On l Z ws R own nm bytes maxL ret C T h cells slots) {K0 : String} {ix c2 s2 : Nat} (hd : decode bytes pc = .ok (.anewarray ix, 3)) (w1 : (Cond.classLink own ix K0).before a0 Z = true) (w2 : (Cond.arrayOver (.object K0)).before a0 Z = true) {z : Int32} (hz : z.toInt = N) {cap : Nat} (hcap : N ≤ cap) (hb : cap * 8 ≤ 536870912) (hc2 : cells + 1 = c2) (hs2 : slots + cap = s2) (hc : c2 ≤ R.cells) (hl : s2 ≤ R.slots) (hq : pc + 3 = q)
    (K : ∀ a T' h' cA, a = h.size → C.s.heap.size ≤ a → On l Z ws R own nm bytes maxL ret C T' h' c2 s2 → Ext h h' → ArC Z h' a (.object K0) N (fun _ => .null) cA → Ovr Z cA K0 → Go C ws Q k n (T'.setTop (mkF C.m q Ls (.ref a :: st)))) : Go C ws Q k n (T.setTop (mkF C.m pc Ls (.int z :: st))) := by
  obtain ⟨⟨hx, hZ, rfl, r1, hown, r2⟩, ⟨_, X, N'⟩, eT⟩ := O; subst hq hc2 hs2
  obtain ⟨T', h', cA, X', e', E, A, Ov, stp⟩ := Jvm.RoadKit.newR X hx hZ hown w1 w2 eT (g := mkF C.m pc Ls (.int z :: st)) rfl hd rfl (nneg hz) (by rw [toNat_of hz]; exact hcap) hb hc hl
  exact (K _ T' h' cA rfl (eT ▸ X.same.2.1) ⟨⟨hx, hZ, rfl, r1, hown, r2⟩, ⟨_, X', N'⟩, e'⟩ E (ArC.new A hz) Ov).of fun _ kk => stp _ kk
theorem newRR (O : On l Z ws R own nm bytes maxL ret C T h cells slots) {K0 ad : String} {ix c2 s2 : Nat} (hd : decode bytes pc = .ok (.anewarray ix, 3)) (hC : (FieldType.array ty).toString = K0) (had : "[" ++ K0 = ad) (w1 : (Cond.classLink own ix K0).before a0 Z = true) (w2 : (Cond.arrayOver (.array ty)).before a0 Z = true) {z : Int32} (hz : z.toInt = N) {cap : Nat} (hcap : N ≤ cap) (hb : cap * 8 ≤ 536870912) (hc2 : cells + 1 = c2) (hs2 : slots + cap = s2) (hc : c2 ≤ R.cells) (hl : s2 ≤ R.slots) (hq : pc + 3 = q)
    (K : ∀ a T' h' cA, a = h.size → C.s.heap.size ≤ a → On l Z ws R own nm bytes maxL ret C T' h' c2 s2 → Ext h h' → ArC Z h' a (.array ty) N (fun _ => .null) cA → OvrA Z cA ty K0 → Go C ws Q k n (T'.setTop (mkF C.m q Ls (.ref a :: st)))) : Go C ws Q k n (T.setTop (mkF C.m pc Ls (.int z :: st))) := by
  obtain ⟨⟨hx, hZ, rfl, r1, hown, r2⟩, ⟨_, X, N'⟩, eT⟩ := O; subst hq hc2 hs2
  obtain ⟨T', h', cA, X', e', E, A, -, Ov, stp⟩ := Jvm.RoadKit.newRA X hx hZ hown hC w1 w2 eT (g := mkF C.m pc Ls (.int z :: st)) rfl hd rfl (nneg hz) (by rw [toNat_of hz]; exact hcap) hb hc hl had
  exact (K _ T' h' cA rfl (eT ▸ X.same.2.1) ⟨⟨hx, hZ, rfl, r1, hown, r2⟩, ⟨_, X', N'⟩, e'⟩ E (ArC.new A hz) Ov).of fun _ kk => stp _ kk
theorem aasRR (O : On l Z ws R own nm bytes maxL ret C T h cells slots) {K0 : String} {y : Addr} {cA : ClassId} (hd : decode bytes pc = .ok (.aastore, 1)) (V : ArC Z h a (.array ty) N f cA) (Ov : OvrA Z cA ty K0) (I : Ins Z h y K0 true) (hj : j.toInt = (i : Int)) (hi : i < N) (ha : a ∈ ws ∨ C.s.heap.size ≤ a) (hq : pc + 1 = q)
    (K : ∀ T' h', On l Z ws R own nm bytes maxL ret C T' h' cells slots → Wr h h' a i (.ref y) → Go C ws Q k n (T'.setTop (mkF C.m q Ls st))) : Go C ws Q k n (T.setTop (mkF C.m pc Ls (.ref y :: .int j :: .ref a :: st))) := by
  obtain ⟨⟨hx, hZ, rfl, r1, hown, r2⟩, ⟨_, X, N'⟩, eT⟩ := O; subst hq
  obtain ⟨cl, A, rc, s1, s2, s3⟩ := V
  obtain ⟨T', h', X', e', W, stp⟩ := Jvm.RoadKit.stR X hx hZ eT A (inb hj s1 hi) rfl (Sto.ofVA A rc Ov I) (g := mkF C.m pc Ls (.ref y :: .int j :: .ref a :: st)) rfl rfl hd
  exact (K T' h' ⟨⟨hx, hZ, rfl, r1, hown, r2⟩, ⟨_, X', N'.snoc ha⟩, e'⟩ (toNat_of hj ▸ W)).of fun _ kk => stp _ kk
end StepsC
end Jvm.OwnW

namespace Jvm.Pilot.@@N@@
open Jvm Jvm.ClassFile Sem Op Lib Jvm.Free Jvm.Stand Jvm.LawKit Jvm.RoadKit Bundle Jvm.OwnW Jvm.Pilot.@@N@@.Jvm.D

/-- the byte of value x, as the int that baload gives -/
def own_b (x : Nat) : Int32 := Int32.ofInt (if x < 128 then (x : Int) else (x : Int) - 256)
theorem own_bI {x : Nat} (h : x < 256) : (own_b x).toInt = if x < 128 then (x : Int) else (x : Int) - 256 := by
  rw [own_b, Int32.toInt_ofInt]
  have sz : (Int32.size : Int) = 4294967296 := rfl
  apply Int.bmod_eq_of_le <;> split <;> omega
theorem own_bV {p : Int64} {P : Nat} (hp : p.toInt = (P : Int)) : p.toInt32.toInt8.toInt32 = own_b (P % 256) := by
  apply eq32
  rw [own_bI (by omega)]
  have h1 := c_l2i p; have h2 := c_i2b p.toInt32
  split <;> omega
theorem own_b255 {x : Nat} (h : x < 256) : (own_b x &&& 255).toInt = (x : Int) := by
  rw [c_mask _ 255 8 (by decide) (by decide), own_bI h]
  show _ % 256 = _
  split <;> omega
theorem own_b0 {x : Nat} (h : x < 256) : own_b x = 0 ↔ x = 0 := by
  have e := own_bI h
  constructor
  · intro q; rw [q] at e; have : (0 : Int32).toInt = 0 := rfl; split at e <;> omega
  · rintro rfl; rfl
/-- the byte at place e from the right of W -/
def own_d (W e : Nat) : Nat := W / 256 ^ e % 256
theorem own_dlt (W e : Nat) : own_d W e < 256 := Nat.mod_lt _ (by decide)
theorem own_d0 {W e : Nat} (h : W < 256 ^ e) : own_d W e = 0 := by rw [own_d, Nat.div_eq_of_lt h]
theorem own_dput {W P j e : Nat} (hW : W < 256 ^ j) (hP : P < 256) : own_d (W + P * 256 ^ j) e = if e = j then P else own_d W e := by
  unfold own_d
  rcases Nat.lt_trichotomy e j with h | h | h
  · rw [if_neg (by omega)]
    obtain ⟨t, rfl⟩ : ∃ t, j = e + (t + 1) := ⟨j - e - 1, by omega⟩
    have : P * 256 ^ (e + (t + 1)) = 256 ^ e * (256 * (P * 256 ^ t)) := by rw [Nat.pow_add, Nat.pow_succ]; grind
    rw [this, Nat.add_mul_div_left _ _ (Nat.pos_of_ne_zero (by simp)), Nat.add_mul_mod_self_left]
  · subst h
    rw [if_pos rfl, Nat.add_mul_div_right _ _ (Nat.pos_of_ne_zero (by simp)), Nat.div_eq_of_lt hW, Nat.zero_add, Nat.mod_eq_of_lt hP]
  · rw [if_neg (by omega)]
    have k : 256 ^ (j + 1) ≤ 256 ^ e := Nat.pow_le_pow_right (by decide) (by omega)
    have k2 : P * 256 ^ j ≤ 255 * 256 ^ j := Nat.mul_le_mul_right _ (by omega)
    rw [Nat.pow_succ] at k
    rw [Nat.div_eq_of_lt (by omega), Nat.div_eq_of_lt (show W < 256 ^ e by omega)]
/-- the bytes of W in an array of n places -/
def own_f (n W : Nat) : Nat → Value := fun i => .int (own_b (own_d W (n - 1 - i)))
theorem own_fput {n W P j : Nat} (hW : W < 256 ^ j) (hP : P < 256) (hj : j < n) (i : Nat) (hi : i < n) : updV (own_f n W) (n - 1 - j) (.int (own_b P)) i = own_f n (W + P * 256 ^ j) i := by
  simp only [updV, own_f]
  rw [own_dput hW hP]
  by_cases e : i = n - 1 - j
  · rw [if_pos e, if_pos (by omega)]
  · rw [if_neg e, if_neg (by omega)]
theorem own_fz (n i : Nat) : Value.int (0 : Int32) = own_f n 0 i := by
  simp only [own_f, own_d, Nat.zero_div]; rfl
/-- the int of value x mod 2^32 -/
def own_i (x : Nat) : Int32 := Int32.ofInt (x : Int)
theorem own_iM (x : Nat) : (own_i x).toInt % 4294967296 = (x : Int) % 4294967296 := by
  rw [own_i, Int32.toInt_ofInt]
  have sz : (Int32.size : Int) = 4294967296 := rfl
  have := Int.bmod_emod (x := (x : Int)) (m := 4294967296)
  exact this
theorem own_iE {z : Int32} {x : Nat} (h : (z.toInt - (x : Int)) % 4294967296 = 0) : z = own_i x := by
  have h1 := own_iM x; have := rng32 z; have := rng32 (own_i x)
  exact eq32 (by omega)
/-- what an array of ints says of the number V -/
def own_mag (Z : State) (h : Heap) (mg : Addr) (V : Nat) : Prop :=
  (V = 0 ∧ Ar Z h mg .int 0 (lf [])) ∨ (0 < V ∧ V < 4294967296 ∧ Ar Z h mg .int 1 (lf [.int (own_i V)])) ∨ (4294967296 ≤ V ∧ V < 18446744073709551616 ∧ Ar Z h mg .int 2 (lf [.int (own_i (V / 4294967296)), .int (own_i V)]))
def own_big (Z : State) (h : Heap) (r : Addr) (V : Nat) : Prop :=
  Exa Z h r "java/math/BigInteger" ∧ ∃ mg, Fld Z h r "java/math/BigInteger" "mag" "[I" (.ref mg) ∧ Fld Z h r "java/math/BigInteger" "signum" "I" (.int (if V = 0 then 0 else 1)) ∧ own_mag Z h mg V
theorem own_mag.keep {Z : State} {h h' : Heap} {mg : Addr} {V : Nat} (M : own_mag Z h mg V) (K : Keep h h' []) : own_mag Z h' mg V := by
  rcases M with ⟨a, b⟩ | ⟨a, b, c⟩ | ⟨a, b, c⟩
  · exact Or.inl ⟨a, b.keep K nin0⟩
  · exact Or.inr (Or.inl ⟨a, b, c.keep K nin0⟩)
  · exact Or.inr (Or.inr ⟨a, b, c.keep K nin0⟩)
theorem own_big.keep {Z : State} {h h' : Heap} {r : Addr} {V : Nat} (M : own_big Z h r V) (K : Keep h h' []) : own_big Z h' r V := by
  obtain ⟨E, mg, F1, F2, M⟩ := M
  exact ⟨E.keep K, mg, F1.keep K nin0, F2.keep K nin0, M.keep K⟩
theorem own_sh {q : Int32} {s : Nat} (hq : q.toInt = (s : Int)) (hs : s < 64) : q.toBitVec.toNat % 64 = s := by
  have h1 : q.toInt = q.toBitVec.toInt := rfl
  rw [h1, BitVec.toInt_eq_toNat_cond] at hq
  split at hq <;> omega
theorem own_or {pe : Int64} {p1 pb : Int32} {P a b c : Nat} (hpe : pe.toInt = (P : Int)) (hb : pb.toInt = (b : Int)) (hP : P < 2 ^ b) (ha : p1.toInt = (a : Int)) (hac : a < 2 ^ c) (hbc : b + c ≤ 62) : (pe ||| (p1.toInt64 <<< (pb &&& 0x3f).toInt64)).toInt = ((P + a * 2 ^ b : Nat) : Int) ∧ P + a * 2 ^ b < 2 ^ (b + c) := by
  have hp : 0 < 2 ^ b := Nat.pos_of_ne_zero (by simp)
  have hx : a * 2 ^ b + 2 ^ b ≤ 2 ^ (b + c) := by
    have : (a + 1) * 2 ^ b ≤ 2 ^ c * 2 ^ b := Nat.mul_le_mul_right _ (by omega)
    rw [Nat.add_mul, Nat.one_mul] at this
    rw [Nat.pow_add, Nat.mul_comm (2 ^ b) (2 ^ c)]; exact this
  have h62 : 2 ^ (b + c) ≤ 2 ^ 62 := Nat.pow_le_pow_right (by decide) hbc
  have h1 := c_lshl p1.toInt64 pb b (own_sh hb (by omega))
  rw [c_i2l, ha, ← Int.natCast_mul] at h1
  have hr := rng64 (p1.toInt64 <<< (pb &&& 0x3f).toInt64)
  have e1 : (p1.toInt64 <<< (pb &&& 0x3f).toInt64).toInt = ((a * 2 ^ b : Nat) : Int) := by omega
  have e2 : (p1.toInt64 <<< (pb &&& 0x3f).toInt64).toInt % ((2 ^ b : Nat) : Int) = 0 := by rw [e1, ← Int.natCast_emod, Nat.mul_mod_left]; rfl
  have h2 := c_orL' pe (p1.toInt64 <<< (pb &&& 0x3f).toInt64) b (by omega) ((2 ^ b : Nat) : Int) rfl e2 (by omega) (by omega)
  have hr2 := rng64 (pe ||| (p1.toInt64 <<< (pb &&& 0x3f).toInt64))
  refine ⟨?_, by omega⟩
  omega
theorem own_loop {W P j b : Nat} (hW : W < 256 ^ j) (hP : P < 2 ^ b) (hb : 8 ≤ b) : W + P % 256 * 256 ^ j + P / 256 * 256 ^ (j + 1) = W + P * 256 ^ j ∧ W + P % 256 * 256 ^ j < 256 ^ (j + 1) ∧ P / 256 < 2 ^ (b - 8) := by
  refine ⟨?_, ?_, ?_⟩
  · have e : P * 256 ^ j = (P % 256 + 256 * (P / 256)) * 256 ^ j := by rw [Nat.mod_add_div]
    rw [e, Nat.pow_succ]; grind
  · have k2 : P % 256 * 256 ^ j ≤ 255 * 256 ^ j := Nat.mul_le_mul_right _ (by omega)
    rw [Nat.pow_succ]; omega
  · rw [Nat.div_lt_iff_lt_mul (by decide)]
    have : 2 ^ b = 2 ^ (b - 8) * 256 := by rw [show b = b - 8 + 8 by omega, Nat.pow_add, show b - 8 + 8 - 8 = b - 8 by omega]
    omega
theorem own_us8 {p : Int64} {P : Nat} (hp : p.toInt = (P : Int)) : ((p.toUInt64 >>> ((8 : Int32) &&& 0x3f).toInt64.toUInt64).toInt64).toInt = ((P / 256 : Nat) : Int) := by
  have h := c_lushr p 8 8 (by decide) (by decide); have := rng64 p; omega
theorem own_dz {V e : Nat} (h : V < 256 ^ (e + 1)) (z : own_d V e = 0) : V < 256 ^ e := by
  have hp : 0 < 256 ^ e := Nat.pos_of_ne_zero (by simp)
  have : V / 256 ^ e < 256 := by rw [Nat.div_lt_iff_lt_mul hp, Nat.mul_comm, ← Nat.pow_succ]; exact h
  rw [own_d, Nat.mod_eq_of_lt this] at z
  exact (Nat.div_eq_zero_iff_lt hp).mp z
theorem own_dn {V e : Nat} (h : own_d V e ≠ 0) : 256 ^ e ≤ V := Nat.not_lt.mp fun q => h (own_d0 q)
theorem own_k8 {V k : Nat} (h1 : 256 ^ k ≤ V) (h2 : V < 18446744073709551616) : k < 8 := Nat.not_le.mp fun q => by
  have : 256 ^ 8 ≤ 256 ^ k := Nat.pow_le_pow_right (by decide) q
  omega
theorem own_za {z : Int32} {x : Nat} (h : z.toInt = (x : Int)) (hx : x < 1000) : (z + 1).toInt = ((x + 1 : Nat) : Int) := inc32 h (by omega)
theorem own_fe {n V i E : Nat} (h : n - 1 - i = E) : own_f n V i = .int (own_b (own_d V E)) := by simp only [own_f]; rw [h]
def own_u (z : Int32) (D : Nat) : Prop := (z.toInt - (D : Int)) % 4294967296 = 0
theorem own_h0 (V e : Nat) : own_u (own_b (own_d V e) &&& 255) (own_d V e) := by
  have := own_b255 (own_dlt V e); unfold own_u; omega
theorem own_h1 {z : Int32} {D : Nat} (h : own_u z D) (V e : Nat) : own_u ((z <<< ((8 : Int32) &&& 31)) ||| (own_b (own_d V e) &&& 255)) (D * 256 + own_d V e) := by
  have h0 := own_b255 (own_dlt V e); have hl := own_dlt V e
  have h1 := c_ishl z 8 8 (by decide)
  unfold own_u at *
  have h2 := c_or (z <<< ((8 : Int32) &&& 31)) (own_b (own_d V e) &&& 255) 8 (by decide) 256 rfl (by omega) (by omega) (by omega)
  omega
theorem own_h4 (V : Nat) : own_u ((((own_b (own_d V 3) <<< ((24 : Int32) &&& 31)) ||| ((own_b (own_d V 2) &&& 255) <<< ((16 : Int32) &&& 31))) ||| ((own_b (own_d V 1) &&& 255) <<< ((8 : Int32) &&& 31))) ||| (own_b (own_d V 0) &&& 255)) (((own_d V 3 * 256 + own_d V 2) * 256 + own_d V 1) * 256 + own_d V 0) := by
  have i3 := own_bI (own_dlt V 3); have i2 := own_b255 (own_dlt V 2); have i1 := own_b255 (own_dlt V 1); have i0 := own_b255 (own_dlt V 0)
  have l3 := own_dlt V 3; have l2 := own_dlt V 2; have l1 := own_dlt V 1; have l0 := own_dlt V 0
  have a := c_ishl (own_b (own_d V 3)) 24 24 (by decide); have b := c_ishl (own_b (own_d V 2) &&& 255) 16 16 (by decide); have c := c_ishl (own_b (own_d V 1) &&& 255) 8 8 (by decide)
  have rb := rng32 ((own_b (own_d V 2) &&& 255) <<< ((16 : Int32) &&& 31)); have rc := rng32 ((own_b (own_d V 1) &&& 255) <<< ((8 : Int32) &&& 31))
  have h3 : (own_b (own_d V 3)).toInt = (own_d V 3 : Int) ∨ (own_b (own_d V 3)).toInt = (own_d V 3 : Int) - 256 := by split at i3 <;> omega
  have o1 := c_or (own_b (own_d V 3) <<< ((24 : Int32) &&& 31)) ((own_b (own_d V 2) &&& 255) <<< ((16 : Int32) &&& 31)) 24 (by decide) 16777216 rfl (by omega) (by omega) (by omega)
  have o2 := c_or ((own_b (own_d V 3) <<< ((24 : Int32) &&& 31)) ||| ((own_b (own_d V 2) &&& 255) <<< ((16 : Int32) &&& 31))) ((own_b (own_d V 1) &&& 255) <<< ((8 : Int32) &&& 31)) 16 (by decide) 65536 rfl (by omega) (by omega) (by omega)
  have o3 := c_or (((own_b (own_d V 3) <<< ((24 : Int32) &&& 31)) ||| ((own_b (own_d V 2) &&& 255) <<< ((16 : Int32) &&& 31))) ||| ((own_b (own_d V 1) &&& 255) <<< ((8 : Int32) &&& 31))) (own_b (own_d V 0) &&& 255) 8 (by decide) 256 rfl (by omega) (by omega) (by omega)
  unfold own_u; omega
/-- where a MagnitudeBytes stands: W in the last j bytes of n, P pending in b bits -/
def own_st (n W P j b : Nat) (ix pb : Int32) (pe : Int64) : Prop := ix.toInt = ((n - j : Nat) : Int) ∧ pe.toInt = (P : Int) ∧ pb.toInt = (b : Int) ∧ b ≤ 7 ∧ P < 2 ^ b ∧ W < 256 ^ j
theorem own_v (W P a b j : Nat) : W + (P + a * 2 ^ b) * 256 ^ j = W + P * 256 ^ j + a * 2 ^ (8 * j + b) := by
  have e : 2 ^ (8 * j + b) = 2 ^ b * 256 ^ j := by rw [Nat.pow_add, Nat.pow_mul, Nat.mul_comm]
  rw [e]; grind
theorem own_ix1 {ix : Int32} {n j : Nat} (h : ix.toInt = ((n - j : Nat) : Int)) (hn : n ≤ 10) (hj : j < n) : (ix - 1).toInt = ((n - 1 - j : Nat) : Int) := by
  rw [dec32 h (by omega)]; omega
theorem own_pb8 {pb : Int32} {b : Nat} (h : pb.toInt = (b : Int)) (hb : b ≤ 100) (h8 : 8 ≤ b) : (pb - 8).toInt = ((b - 8 : Nat) : Int) := by
  have e : (8 : Int32).toInt = 8 := rfl
  rw [Jvm.OwnW.sub32 (by omega) (by omega), e]; omega
theorem own_pbc {pb p2 : Int32} {b c : Nat} (h : pb.toInt = (b : Int)) (h2 : p2.toInt = (c : Int)) (hb : b ≤ 100) (hc : c ≤ 100) : (pb + p2).toInt = ((b + c : Nat) : Int) := by
  rw [Jvm.OwnW.add32 (by omega) (by omega)]; omega
theorem own_df {x y : Int32} {a b c : Nat} (hx : x.toInt = (a : Int)) (hy : y.toInt = (b : Int)) (h : a = b + c) (ha : a ≤ 1000) : (x - y).toInt = (c : Int) := by
  rw [Jvm.OwnW.sub32 (by omega) (by omega)]; omega
theorem own_iU {z : Int32} {D X : Nat} (h : own_u z D) (e : D % 4294967296 = X % 4294967296) : z = own_i X := own_iE (by unfold own_u at h; omega)

theorem dn_0 : decode jdk_29_method_69_code 0 = .ok (.iload_n 0, 1) := by decide +kernel
theorem dn_1 : decode jdk_29_method_69_code 1 = .ok (.iload_n 1, 1) := by decide +kernel
theorem dn_2 : decode jdk_29_method_69_code 2 = .ok (.if_icmp .gt 7, 3) := by decide +kernel
theorem dn_5 : decode jdk_29_method_69_code 5 = .ok (.iload_n 0, 1) := by decide +kernel
theorem dn_6 : decode jdk_29_method_69_code 6 = .ok (.goto 4, 3) := by decide +kernel
theorem dn_9 : decode jdk_29_method_69_code 9 = .ok (.iload_n 1, 1) := by decide +kernel
theorem dn_10 : decode jdk_29_method_69_code 10 = .ok (.ireturn, 1) := by decide +kernel
def fn_n (p0 : Int32) (p1 : Int32) : Int32 := (if p1 < p0 then p1 else p0)
theorem ef_n (p0 : Int32) (p1 : Int32) (m : MethodId) : entryFrame m #[(.int p0), (.int p1)] 2 = mkF m 0 #[.val (.int p0), .val (.int p1)] [] := by first | (simp [entryFrame, mkF, argsToLocals, Value.category, maxLocals]; done) | rfl
theorem pn_n : plainFor (⟨"java/lang/Math", "min", "(II)I"⟩ : MethodName) = true := by first | exact plainFor_of_name (by first | (simp [plainName, overriddenIn]; done) | decide +kernel) | decide +kernel
set_option maxRecDepth 65536 in
set_option maxHeartbeats 40000000 in
theorem rm_n (l : Launch) (Z : State) (a0 : Array Value) (hw : ∀ d ∈ tables_1, d.before a0 Z = true) (p0 : Int32) (p1 : Int32) (h0 : Heap)  :
    Met l Z (⟨"java/lang/Math", "min", "(II)I"⟩ : MethodName) jdk_29_method_69_code 2 (some .int) [] ({ frames := 0, cells := 0, slots := 0, locals := 0 } : Room) #[(.int p0), (.int p1)] [] h0 (fun v h => v = some (Value.int (fn_n p0 p1))) := by
  refine Met.mk pn_n (ef_n p0 p1) ?_
  intro C T hs0 O
  show Go C [] (fun v h => v = some (Value.int (fn_n p0 p1))) 0 0 (T.setTop (mkF C.m 0 #[.val (.int p0), .val (.int p1)] []))
  refine Jvm.OwnW.iloadN O dn_0 rfl (q := 1) rfl ?_
  refine Jvm.OwnW.iloadN O dn_1 rfl (q := 2) rfl ?_
  by_cases hc2 : p1 < p0
  · refine Jvm.OwnW.icmpYes O dn_2 (tlt hc2).2.2.1 (by decide) (q := 9) rfl ?_
    refine Jvm.OwnW.iloadN O dn_9 rfl (q := 10) rfl ?_
    exact Jvm.OwnW.retI O dn_10 rfl (by decide) (by decide) (by show some (Value.int p1) = some (Value.int (fn_n p0 p1)); rw [fn_n, if_pos hc2])
  · refine Jvm.OwnW.icmpNo O dn_2 (flt hc2).2.2.1 (q := 5) rfl ?_
    refine Jvm.OwnW.iloadN O dn_5 rfl (q := 6) rfl ?_
    refine Jvm.OwnW.goto O dn_6 (by decide) (q := 10) rfl ?_
    exact Jvm.OwnW.retI O dn_10 rfl (by decide) (by decide) (by show some (Value.int p0) = some (Value.int (fn_n p0 p1)); rw [fn_n, if_neg hc2])
theorem dx_0 : decode jdk_29_method_65_code 0 = .ok (.iload_n 0, 1) := by decide +kernel
theorem dx_1 : decode jdk_29_method_65_code 1 = .ok (.iload_n 1, 1) := by decide +kernel
theorem dx_2 : decode jdk_29_method_65_code 2 = .ok (.if_icmp .lt 7, 3) := by decide +kernel
theorem dx_5 : decode jdk_29_method_65_code 5 = .ok (.iload_n 0, 1) := by decide +kernel
theorem dx_6 : decode jdk_29_method_65_code 6 = .ok (.goto 4, 3) := by decide +kernel
theorem dx_9 : decode jdk_29_method_65_code 9 = .ok (.iload_n 1, 1) := by decide +kernel
theorem dx_10 : decode jdk_29_method_65_code 10 = .ok (.ireturn, 1) := by decide +kernel
def fn_x (p0 : Int32) (p1 : Int32) : Int32 := (if p0 < p1 then p1 else p0)
theorem ef_x (p0 : Int32) (p1 : Int32) (m : MethodId) : entryFrame m #[(.int p0), (.int p1)] 2 = mkF m 0 #[.val (.int p0), .val (.int p1)] [] := by first | (simp [entryFrame, mkF, argsToLocals, Value.category, maxLocals]; done) | rfl
theorem pn_x : plainFor (⟨"java/lang/Math", "max", "(II)I"⟩ : MethodName) = true := by first | exact plainFor_of_name (by first | (simp [plainName, overriddenIn]; done) | decide +kernel) | decide +kernel
set_option maxRecDepth 65536 in
set_option maxHeartbeats 40000000 in
theorem rm_x (l : Launch) (Z : State) (a0 : Array Value) (hw : ∀ d ∈ tables_1, d.before a0 Z = true) (p0 : Int32) (p1 : Int32) (h0 : Heap)  :
    Met l Z (⟨"java/lang/Math", "max", "(II)I"⟩ : MethodName) jdk_29_method_65_code 2 (some .int) [] ({ frames := 0, cells := 0, slots := 0, locals := 0 } : Room) #[(.int p0), (.int p1)] [] h0 (fun v h => v = some (Value.int (fn_x p0 p1))) := by
  refine Met.mk pn_x (ef_x p0 p1) ?_
  intro C T hs0 O
  show Go C [] (fun v h => v = some (Value.int (fn_x p0 p1))) 0 0 (T.setTop (mkF C.m 0 #[.val (.int p0), .val (.int p1)] []))
  refine Jvm.OwnW.iloadN O dx_0 rfl (q := 1) rfl ?_
  refine Jvm.OwnW.iloadN O dx_1 rfl (q := 2) rfl ?_
  by_cases hc2 : p0 < p1
  · refine Jvm.OwnW.icmpYes O dx_2 (tlt hc2).1 (by decide) (q := 9) rfl ?_
    refine Jvm.OwnW.iloadN O dx_9 rfl (q := 10) rfl ?_
    exact Jvm.OwnW.retI O dx_10 rfl (by decide) (by decide) (by show some (Value.int p1) = some (Value.int (fn_x p0 p1)); rw [fn_x, if_pos hc2])
  · refine Jvm.OwnW.icmpNo O dx_2 (flt hc2).1 (q := 5) rfl ?_
    refine Jvm.OwnW.iloadN O dx_5 rfl (q := 6) rfl ?_
    refine Jvm.OwnW.goto O dx_6 (by decide) (q := 10) rfl ?_
    exact Jvm.OwnW.retI O dx_10 rfl (by decide) (by decide) (by show some (Value.int p0) = some (Value.int (fn_x p0 p1)); rw [fn_x, if_neg hc2])
theorem dw_0 : decode method_2_code 0 = .ok (.iload_n 0, 1) := by decide +kernel
theorem dw_1 : decode method_2_code 1 = .ok (.i2l, 1) := by decide +kernel
theorem dw_2 : decode method_2_code 2 = .ok (.lconst 1, 1) := by decide +kernel
theorem dw_3 : decode method_2_code 3 = .ok (.iload_n 1, 1) := by decide +kernel
theorem dw_4 : decode method_2_code 4 = .ok (.lshl, 1) := by decide +kernel
theorem dw_5 : decode method_2_code 5 = .ok (.lconst 1, 1) := by decide +kernel
theorem dw_6 : decode method_2_code 6 = .ok (.lsub, 1) := by decide +kernel
theorem dw_7 : decode method_2_code 7 = .ok (.land, 1) := by decide +kernel
theorem dw_8 : decode method_2_code 8 = .ok (.l2i, 1) := by decide +kernel
theorem dw_9 : decode method_2_code 9 = .ok (.ireturn, 1) := by decide +kernel
def fn_w (p0 : Int32) (p1 : Int32) : Int32 := (p0.toInt64 &&& (((1 : Int64) <<< (p1 &&& 0x3f).toInt64) - (1 : Int64))).toInt32
theorem ef_w (p0 : Int32) (p1 : Int32) (m : MethodId) : entryFrame m #[(.int p0), (.int p1)] 2 = mkF m 0 #[.val (.int p0), .val (.int p1)] [] := by first | (simp [entryFrame, mkF, argsToLocals, Value.category, maxLocals]; done) | rfl
theorem pn_w : plainFor (⟨"com/example/vary5/vary5/MagnitudeBytesAddPinLaw", "low", "(II)I"⟩ : MethodName) = true := by first | exact plainFor_of_name (by first | (simp [plainName, overriddenIn]; done) | decide +kernel) | decide +kernel
set_option maxRecDepth 65536 in
set_option maxHeartbeats 40000000 in
theorem rm_w (l : Launch) (Z : State) (a0 : Array Value) (hw : ∀ d ∈ tables_1, d.before a0 Z = true) (p0 : Int32) (p1 : Int32) (h0 : Heap)  :
    Met l Z (⟨"com/example/vary5/vary5/MagnitudeBytesAddPinLaw", "low", "(II)I"⟩ : MethodName) method_2_code 2 (some .int) [] ({ frames := 0, cells := 0, slots := 0, locals := 0 } : Room) #[(.int p0), (.int p1)] [] h0 (fun v h => v = some (Value.int (fn_w p0 p1))) := by
  refine Met.mk pn_w (ef_w p0 p1) ?_
  intro C T hs0 O
  show Go C [] (fun v h => v = some (Value.int (fn_w p0 p1))) 0 0 (T.setTop (mkF C.m 0 #[.val (.int p0), .val (.int p1)] []))
  refine Jvm.OwnW.iloadN O dw_0 rfl (q := 1) rfl ?_
  refine Jvm.OwnW.i2l O dw_1 rfl (q := 2) rfl ?_
  refine Jvm.OwnW.lconst O dw_2 (r := (1 : Int64)) rfl (q := 3) rfl ?_
  refine Jvm.OwnW.iloadN O dw_3 rfl (q := 4) rfl ?_
  refine Jvm.OwnW.lshl O dw_4 rfl (q := 5) rfl ?_
  refine Jvm.OwnW.lconst O dw_5 (r := (1 : Int64)) rfl (q := 6) rfl ?_
  refine Jvm.OwnW.lsub O dw_6 rfl (q := 7) rfl ?_
  refine Jvm.OwnW.land O dw_7 rfl (q := 8) rfl ?_
  refine Jvm.OwnW.l2i O dw_8 rfl (q := 9) rfl ?_
  exact Jvm.OwnW.retI O dw_9 rfl (by decide) (by decide) (by show some (Value.int (p0.toInt64 &&& (((1 : Int64) <<< (p1 &&& 0x3f).toInt64) - (1 : Int64))).toInt32) = some (Value.int (fn_w p0 p1)); rw [fn_w])
theorem di_0 : decode prog_8_method_1_code 0 = .ok (.aload_n 0, 1) := by decide +kernel
theorem di_1 : decode prog_8_method_1_code 1 = .ok (.invokespecial 1, 3) := by decide +kernel
theorem di_4 : decode prog_8_method_1_code 4 = .ok (.aload_n 0, 1) := by decide +kernel
theorem di_5 : decode prog_8_method_1_code 5 = .ok (.lload_n 1, 1) := by decide +kernel
theorem di_6 : decode prog_8_method_1_code 6 = .ok (.ldc2_w 7, 3) := by decide +kernel
theorem di_9 : decode prog_8_method_1_code 9 = .ok (.ladd, 1) := by decide +kernel
theorem di_10 : decode prog_8_method_1_code 10 = .ok (.ldc2_w 9, 3) := by decide +kernel
theorem di_13 : decode prog_8_method_1_code 13 = .ok (.ldiv, 1) := by decide +kernel
theorem di_14 : decode prog_8_method_1_code 14 = .ok (.l2i, 1) := by decide +kernel
theorem di_15 : decode prog_8_method_1_code 15 = .ok (.newarray .byte, 2) := by decide +kernel
theorem di_17 : decode prog_8_method_1_code 17 = .ok (.putfield 11, 3) := by decide +kernel
theorem di_20 : decode prog_8_method_1_code 20 = .ok (.aload_n 0, 1) := by decide +kernel
theorem di_21 : decode prog_8_method_1_code 21 = .ok (.aload_n 0, 1) := by decide +kernel
theorem di_22 : decode prog_8_method_1_code 22 = .ok (.getfield 11, 3) := by decide +kernel
theorem di_25 : decode prog_8_method_1_code 25 = .ok (.arraylength, 1) := by decide +kernel
theorem di_26 : decode prog_8_method_1_code 26 = .ok (.putfield 17, 3) := by decide +kernel
theorem di_29 : decode prog_8_method_1_code 29 = .ok (.return_, 1) := by decide +kernel
theorem ef_i (a1 : Addr) (p1 : Int64) (m : MethodId) : entryFrame m #[(.ref a1), (.long p1)] 3 = mkF m 0 #[.val (.ref a1), .val (.long p1), .second] [] := by first | (simp [entryFrame, mkF, argsToLocals, Value.category, maxLocals]; done) | rfl
theorem pn_i : plainFor (⟨"com/example/vary5/vary5/MagnitudeBytes", "<init>", "(J)V"⟩ : MethodName) = true := by first | exact plainFor_of_name (by first | (simp [plainName, overriddenIn]; done) | decide +kernel) | decide +kernel
set_option maxRecDepth 65536 in
set_option maxHeartbeats 40000000 in
theorem rm_i (l : Launch) (Z : State) (a0 : Array Value) (hw : ∀ d ∈ tables_1, d.before a0 Z = true) (a1 : Addr) (p1 : Int64) (n : Nat) (h0 : Heap) (E_a1 : Exa Z h0 a1 "com/example/vary5/vary5/MagnitudeBytes") (F_bytes_a1 : Fld Z h0 a1 "com/example/vary5/vary5/MagnitudeBytes" "bytes" "[B" .null) (F_index_a1 : Fld Z h0 a1 "com/example/vary5/vary5/MagnitudeBytes" "index" "I" (.int (0 : Int32))) (F_pending_a1 : Fld Z h0 a1 "com/example/vary5/vary5/MagnitudeBytes" "pending" "J" (.long (0 : Int64))) (F_pendingBits_a1 : Fld Z h0 a1 "com/example/vary5/vary5/MagnitudeBytes" "pendingBits" "I" (.int (0 : Int32))) (hn : ((p1 + (7 : Int64)) / (8 : Int64)).toInt32.toInt = (n : Int)) (hn10 : n ≤ 10) :
    Met l Z (⟨"com/example/vary5/vary5/MagnitudeBytes", "<init>", "(J)V"⟩ : MethodName) prog_8_method_1_code 3 none [] ({ frames := 1, cells := 1, slots := 10, locals := 12 } : Room) #[(.ref a1), (.long p1)] [a1] h0 (fun v h => v = none ∧ ∃ (ab : Addr) (zx : Int32), h0.size ≤ ab ∧ zx.toInt = (n : Int) ∧ Fld Z h a1 "com/example/vary5/vary5/MagnitudeBytes" "bytes" "[B" (.ref ab) ∧ Fld Z h a1 "com/example/vary5/vary5/MagnitudeBytes" "index" "I" (.int zx) ∧ Fld Z h a1 "com/example/vary5/vary5/MagnitudeBytes" "pending" "J" (.long (0 : Int64)) ∧ Fld Z h a1 "com/example/vary5/vary5/MagnitudeBytes" "pendingBits" "I" (.int (0 : Int32)) ∧ Ar Z h ab .byte n (own_f n 0)) := by
  refine Met.mk pn_i (ef_i a1 p1) ?_
  intro C T hs0 O
  show Go C [a1] (fun v h => v = none ∧ ∃ (ab : Addr) (zx : Int32), h0.size ≤ ab ∧ zx.toInt = (n : Int) ∧ Fld Z h a1 "com/example/vary5/vary5/MagnitudeBytes" "bytes" "[B" (.ref ab) ∧ Fld Z h a1 "com/example/vary5/vary5/MagnitudeBytes" "index" "I" (.int zx) ∧ Fld Z h a1 "com/example/vary5/vary5/MagnitudeBytes" "pending" "J" (.long (0 : Int64)) ∧ Fld Z h a1 "com/example/vary5/vary5/MagnitudeBytes" "pendingBits" "I" (.int (0 : Int32)) ∧ Ar Z h ab .byte n (own_f n 0)) 1 10 (T.setTop (mkF C.m 0 #[.val (.ref a1), .val (.long p1), .second] []))
  refine Jvm.OwnW.aloadN O di_0 rfl rfl (q := 1) rfl ?_
  refine Jvm.OwnW.initO O di_1 (hw _ (List.mem_of_getElem? (i := 17) rfl)) (hw _ (List.mem_of_getElem? (i := 18) rfl)) (hw _ (List.mem_of_getElem? (i := 19) rfl)) rfl (by decide) (W := 0) (Nat.le_of_eq rfl) (by decide) (q := 4) rfl ?_
  intro T1 O1
  refine Jvm.OwnW.aloadN O1 di_4 rfl rfl (q := 5) rfl ?_
  refine Jvm.OwnW.lloadN O1 di_5 rfl (q := 6) rfl ?_
  refine Jvm.OwnW.ldcL O1 di_6 (hw _ (List.mem_of_getElem? (i := 20) rfl)) (q := 9) rfl ?_
  refine Jvm.OwnW.ladd O1 di_9 rfl (q := 10) rfl ?_
  refine Jvm.OwnW.ldcL O1 di_10 (hw _ (List.mem_of_getElem? (i := 21) rfl)) (q := 13) rfl ?_
  refine Jvm.OwnW.ldiv O1 di_13 (by decide) rfl (q := 14) rfl ?_
  obtain ⟨zx, hzx⟩ : ∃ zz_, ((p1 + (7 : Int64)) / (8 : Int64)).toInt32 = zz_ := ⟨_, rfl⟩
  refine Jvm.OwnW.l2i O1 di_14 hzx (q := 15) rfl ?_
  rw [hzx] at hn
  refine Jvm.OwnW.newA' O1 di_15 (ty := .byte) rfl (hw _ (List.mem_of_getElem? (i := 22) rfl)) (N := n) hn (cap := 10) hn10 (by decide) (c2 := 1) (s2 := 10) rfl rfl (by decide) (by decide) (q := 17) rfl ?_
  intro nb2 T2 h2 g2 N2 O2 X2 V_nb2
  have ne_a1_nb2 : a1 ≠ nb2 := Nat.ne_of_lt (Nat.lt_of_lt_of_le E_a1.lt (Nat.le_of_eq g2.symm))
  have E_a1 := E_a1.ext X2
  have F_bytes_a1 := F_bytes_a1.ext X2
  have F_index_a1 := F_index_a1.ext X2
  have F_pending_a1 := F_pending_a1.ext X2
  have F_pendingBits_a1 := F_pendingBits_a1.ext X2
  refine Jvm.OwnW.putF O2 di_17 (host := "") (Or.inl (hw _ (List.mem_of_getElem? (i := 23) rfl))) Via.refl F_bytes_a1 E_a1 (Or.inr ⟨hw _ (List.mem_of_getElem? (i := 24) rfl), rfl, rfl⟩) (hw _ (List.mem_of_getElem? (i := 12) rfl)) (ty := (.array .byte)) (by decide) rfl rfl (Or.inl (List.mem_cons_self ..)) (q := 20) rfl ?_
  intro T3 h3 O3 W3
  have E_a1 := E_a1.wr W3
  have F_bytes_a1 := F_bytes_a1.same W3
  have F_index_a1 := F_index_a1.other W3 (Or.inr (slot_ne (Or.inl (hw _ (List.mem_of_getElem? (i := 26) rfl))) (Or.inr (hw _ (List.mem_of_getElem? (i := 24) rfl))) (by decide) (t := .int) (t' := (.array .byte)) (by decide) (by decide)))
  have F_pending_a1 := F_pending_a1.other W3 (Or.inr (slot_ne (Or.inl (hw _ (List.mem_of_getElem? (i := 33) rfl))) (Or.inr (hw _ (List.mem_of_getElem? (i := 24) rfl))) (by decide) (t := .long) (t' := (.array .byte)) (by decide) (by decide)))
  have F_pendingBits_a1 := F_pendingBits_a1.other W3 (Or.inr (slot_ne (Or.inl (hw _ (List.mem_of_getElem? (i := 35) rfl))) (Or.inr (hw _ (List.mem_of_getElem? (i := 24) rfl))) (by decide) (t := .int) (t' := (.array .byte)) (by decide) (by decide)))
  have V_nb2 := V_nb2.other W3 (Ne.symm ne_a1_nb2)
  refine Jvm.OwnW.aloadN O3 di_20 rfl rfl (q := 21) rfl ?_
  refine Jvm.OwnW.aloadN O3 di_21 rfl rfl (q := 22) rfl ?_
  refine Jvm.OwnW.getF O3 di_22 (host := "") (Or.inl (hw _ (List.mem_of_getElem? (i := 23) rfl))) Via.refl F_bytes_a1 (q := 25) rfl ?_
  intro T4 O4
  refine Jvm.OwnW.lenA O4 di_25 V_nb2 (z := zx) hn (q := 26) rfl ?_
  refine Jvm.OwnW.putF O4 di_26 (host := "") (Or.inl (hw _ (List.mem_of_getElem? (i := 25) rfl))) Via.refl F_index_a1 E_a1 (Or.inl (hw _ (List.mem_of_getElem? (i := 26) rfl))) (hw _ (List.mem_of_getElem? (i := 12) rfl)) (ty := .int) (by decide) rfl rfl (Or.inl (List.mem_cons_self ..)) (q := 29) rfl ?_
  intro T5 h5 O5 W5
  have E_a1 := E_a1.wr W5
  have F_bytes_a1 := F_bytes_a1.other W5 (Or.inr (slot_ne (Or.inr (hw _ (List.mem_of_getElem? (i := 24) rfl))) (Or.inl (hw _ (List.mem_of_getElem? (i := 26) rfl))) (by decide) (t := (.array .byte)) (t' := .int) (by decide) (by decide)))
  have F_index_a1 := F_index_a1.same W5
  have F_pending_a1 := F_pending_a1.other W5 (Or.inr (slot_ne (Or.inl (hw _ (List.mem_of_getElem? (i := 33) rfl))) (Or.inl (hw _ (List.mem_of_getElem? (i := 26) rfl))) (by decide) (t := .long) (t' := .int) (by decide) (by decide)))
  have F_pendingBits_a1 := F_pendingBits_a1.other W5 (Or.inr (slot_ne (Or.inl (hw _ (List.mem_of_getElem? (i := 35) rfl))) (Or.inl (hw _ (List.mem_of_getElem? (i := 26) rfl))) (by decide) (t := .int) (t' := .int) (by decide) (by decide)))
  have V_nb2 := V_nb2.other W5 (Ne.symm ne_a1_nb2)
  exact Jvm.OwnW.ret0 O5 di_29 (by decide) (by decide) ⟨rfl, nb2, zx, hs0 ▸ N2, hn, F_bytes_a1, F_index_a1, F_pending_a1, F_pendingBits_a1, V_nb2.congr fun i _ => own_fz n i⟩
theorem da_0 : decode prog_8_method_2_code 0 = .ok (.aload_n 0, 1) := by decide +kernel
theorem da_1 : decode prog_8_method_2_code 1 = .ok (.dup, 1) := by decide +kernel
theorem da_2 : decode prog_8_method_2_code 2 = .ok (.getfield 21, 3) := by decide +kernel
theorem da_5 : decode prog_8_method_2_code 5 = .ok (.iload_n 1, 1) := by decide +kernel
theorem da_6 : decode prog_8_method_2_code 6 = .ok (.i2l, 1) := by decide +kernel
theorem da_7 : decode prog_8_method_2_code 7 = .ok (.aload_n 0, 1) := by decide +kernel
theorem da_8 : decode prog_8_method_2_code 8 = .ok (.getfield 25, 3) := by decide +kernel
theorem da_11 : decode prog_8_method_2_code 11 = .ok (.lshl, 1) := by decide +kernel
theorem da_12 : decode prog_8_method_2_code 12 = .ok (.lor, 1) := by decide +kernel
theorem da_13 : decode prog_8_method_2_code 13 = .ok (.putfield 21, 3) := by decide +kernel
theorem da_16 : decode prog_8_method_2_code 16 = .ok (.aload_n 0, 1) := by decide +kernel
theorem da_17 : decode prog_8_method_2_code 17 = .ok (.dup, 1) := by decide +kernel
theorem da_18 : decode prog_8_method_2_code 18 = .ok (.getfield 25, 3) := by decide +kernel
theorem da_21 : decode prog_8_method_2_code 21 = .ok (.iload_n 2, 1) := by decide +kernel
theorem da_22 : decode prog_8_method_2_code 22 = .ok (.iadd, 1) := by decide +kernel
theorem da_23 : decode prog_8_method_2_code 23 = .ok (.putfield 25, 3) := by decide +kernel
theorem da_26 : decode prog_8_method_2_code 26 = .ok (.aload_n 0, 1) := by decide +kernel
theorem da_27 : decode prog_8_method_2_code 27 = .ok (.getfield 25, 3) := by decide +kernel
theorem da_30 : decode prog_8_method_2_code 30 = .ok (.bipush 8, 2) := by decide +kernel
theorem da_32 : decode prog_8_method_2_code 32 = .ok (.if_icmp .lt 53, 3) := by decide +kernel
theorem da_35 : decode prog_8_method_2_code 35 = .ok (.aload_n 0, 1) := by decide +kernel
theorem da_36 : decode prog_8_method_2_code 36 = .ok (.dup, 1) := by decide +kernel
theorem da_37 : decode prog_8_method_2_code 37 = .ok (.getfield 17, 3) := by decide +kernel
theorem da_40 : decode prog_8_method_2_code 40 = .ok (.iconst 1, 1) := by decide +kernel
theorem da_41 : decode prog_8_method_2_code 41 = .ok (.isub, 1) := by decide +kernel
theorem da_42 : decode prog_8_method_2_code 42 = .ok (.putfield 17, 3) := by decide +kernel
theorem da_45 : decode prog_8_method_2_code 45 = .ok (.aload_n 0, 1) := by decide +kernel
theorem da_46 : decode prog_8_method_2_code 46 = .ok (.getfield 11, 3) := by decide +kernel
theorem da_49 : decode prog_8_method_2_code 49 = .ok (.aload_n 0, 1) := by decide +kernel
theorem da_50 : decode prog_8_method_2_code 50 = .ok (.getfield 17, 3) := by decide +kernel
theorem da_53 : decode prog_8_method_2_code 53 = .ok (.aload_n 0, 1) := by decide +kernel
theorem da_54 : decode prog_8_method_2_code 54 = .ok (.getfield 21, 3) := by decide +kernel
theorem da_57 : decode prog_8_method_2_code 57 = .ok (.l2i, 1) := by decide +kernel
theorem da_58 : decode prog_8_method_2_code 58 = .ok (.i2b, 1) := by decide +kernel
theorem da_59 : decode prog_8_method_2_code 59 = .ok (.bastore, 1) := by decide +kernel
theorem da_60 : decode prog_8_method_2_code 60 = .ok (.aload_n 0, 1) := by decide +kernel
theorem da_61 : decode prog_8_method_2_code 61 = .ok (.dup, 1) := by decide +kernel
theorem da_62 : decode prog_8_method_2_code 62 = .ok (.getfield 21, 3) := by decide +kernel
theorem da_65 : decode prog_8_method_2_code 65 = .ok (.bipush 8, 2) := by decide +kernel
theorem da_67 : decode prog_8_method_2_code 67 = .ok (.lushr, 1) := by decide +kernel
theorem da_68 : decode prog_8_method_2_code 68 = .ok (.putfield 21, 3) := by decide +kernel
theorem da_71 : decode prog_8_method_2_code 71 = .ok (.aload_n 0, 1) := by decide +kernel
theorem da_72 : decode prog_8_method_2_code 72 = .ok (.dup, 1) := by decide +kernel
theorem da_73 : decode prog_8_method_2_code 73 = .ok (.getfield 25, 3) := by decide +kernel
theorem da_76 : decode prog_8_method_2_code 76 = .ok (.bipush 8, 2) := by decide +kernel
theorem da_78 : decode prog_8_method_2_code 78 = .ok (.isub, 1) := by decide +kernel
theorem da_79 : decode prog_8_method_2_code 79 = .ok (.putfield 25, 3) := by decide +kernel
theorem da_82 : decode prog_8_method_2_code 82 = .ok (.goto (-56), 3) := by decide +kernel
theorem da_85 : decode prog_8_method_2_code 85 = .ok (.return_, 1) := by decide +kernel
theorem ef_a (a1 : Addr) (p1 : Int32) (p2 : Int32) (ab : Addr) (ix pb : Int32) (pe : Int64) (m : MethodId) : entryFrame m #[(.ref a1), (.int p1), (.int p2)] 3 = mkF m 0 #[.val (.ref a1), .val (.int p1), .val (.int p2)] [] := by first | (simp [entryFrame, mkF, argsToLocals, Value.category, maxLocals]; done) | rfl
theorem pn_a : plainFor (⟨"com/example/vary5/vary5/MagnitudeBytes", "add", "(II)V"⟩ : MethodName) = true := by first | exact plainFor_of_name (by first | (simp [plainName, overriddenIn]; done) | decide +kernel) | decide +kernel
set_option maxRecDepth 65536 in
set_option maxHeartbeats 40000000 in
theorem rm_a (l : Launch) (Z : State) (a0 : Array Value) (hw : ∀ d ∈ tables_1, d.before a0 Z = true) (a1 : Addr) (p1 : Int32) (p2 : Int32) (ab : Addr) (ix pb : Int32) (pe : Int64) (n W P j b aN c : Nat) (h0 : Heap) (E_a1 : Exa Z h0 a1 "com/example/vary5/vary5/MagnitudeBytes") (F_bytes_a1 : Fld Z h0 a1 "com/example/vary5/vary5/MagnitudeBytes" "bytes" "[B" (.ref ab)) (F_index_a1 : Fld Z h0 a1 "com/example/vary5/vary5/MagnitudeBytes" "index" "I" (.int ix)) (F_pending_a1 : Fld Z h0 a1 "com/example/vary5/vary5/MagnitudeBytes" "pending" "J" (.long pe)) (F_pendingBits_a1 : Fld Z h0 a1 "com/example/vary5/vary5/MagnitudeBytes" "pendingBits" "I" (.int pb)) (V_ab : Ar Z h0 ab .byte n (own_f n W)) (n1b : a1 ≠ ab) (hst : own_st n W P j b ix pb pe) (hp1 : p1.toInt = (aN : Int)) (hac : aN < 2 ^ c) (hp2 : p2.toInt = (c : Int)) (h62 : 8 * j + b + c ≤ 62) (hfit : 8 * j + b + c ≤ 8 * n) (hn10 : n ≤ 10) :
    Met l Z (⟨"com/example/vary5/vary5/MagnitudeBytes", "add", "(II)V"⟩ : MethodName) prog_8_method_2_code 3 none [] ({ frames := 0, cells := 0, slots := 0, locals := 0 } : Room) #[(.ref a1), (.int p1), (.int p2)] [a1, ab] h0 (fun v h => v = none ∧ ∃ (W' P' j' b' : Nat) (ix' pb' : Int32) (pe' : Int64), own_st n W' P' j' b' ix' pb' pe' ∧ 8 * j' + b' = 8 * j + b + c ∧ W' + P' * 256 ^ j' = W + P * 256 ^ j + aN * 2 ^ (8 * j + b) ∧ Fld Z h a1 "com/example/vary5/vary5/MagnitudeBytes" "bytes" "[B" (.ref ab) ∧ Fld Z h a1 "com/example/vary5/vary5/MagnitudeBytes" "index" "I" (.int ix') ∧ Fld Z h a1 "com/example/vary5/vary5/MagnitudeBytes" "pending" "J" (.long pe') ∧ Fld Z h a1 "com/example/vary5/vary5/MagnitudeBytes" "pendingBits" "I" (.int pb') ∧ Ar Z h ab .byte n (own_f n W')) := by
  refine Met.mk pn_a (ef_a a1 p1 p2 ab ix pb pe) ?_
  intro C T hs0 O
  show Go C [a1, ab] (fun v h => v = none ∧ ∃ (W' P' j' b' : Nat) (ix' pb' : Int32) (pe' : Int64), own_st n W' P' j' b' ix' pb' pe' ∧ 8 * j' + b' = 8 * j + b + c ∧ W' + P' * 256 ^ j' = W + P * 256 ^ j + aN * 2 ^ (8 * j + b) ∧ Fld Z h a1 "com/example/vary5/vary5/MagnitudeBytes" "bytes" "[B" (.ref ab) ∧ Fld Z h a1 "com/example/vary5/vary5/MagnitudeBytes" "index" "I" (.int ix') ∧ Fld Z h a1 "com/example/vary5/vary5/MagnitudeBytes" "pending" "J" (.long pe') ∧ Fld Z h a1 "com/example/vary5/vary5/MagnitudeBytes" "pendingBits" "I" (.int pb') ∧ Ar Z h ab .byte n (own_f n W')) 0 0 (T.setTop (mkF C.m 0 #[.val (.ref a1), .val (.int p1), .val (.int p2)] []))
  refine Jvm.OwnW.aloadN O da_0 rfl rfl (q := 1) rfl ?_
  refine Jvm.OwnW.dup O da_1 rfl (q := 2) rfl ?_
  refine Jvm.OwnW.getF O da_2 (host := "") (Or.inl (hw _ (List.mem_of_getElem? (i := 32) rfl))) Via.refl F_pending_a1 (q := 5) rfl ?_
  intro T1 O1
  refine Jvm.OwnW.iloadN O1 da_5 rfl (q := 6) rfl ?_
  refine Jvm.OwnW.i2l O1 da_6 rfl (q := 7) rfl ?_
  refine Jvm.OwnW.aloadN O1 da_7 rfl rfl (q := 8) rfl ?_
  refine Jvm.OwnW.getF O1 da_8 (host := "") (Or.inl (hw _ (List.mem_of_getElem? (i := 34) rfl))) Via.refl F_pendingBits_a1 (q := 11) rfl ?_
  intro T2 O2
  refine Jvm.OwnW.lshl O2 da_11 rfl (q := 12) rfl ?_
  obtain ⟨pe1, hpe1⟩ : ∃ zz_, (pe ||| (p1.toInt64 <<< (pb &&& 0x3f).toInt64)) = zz_ := ⟨_, rfl⟩
  refine Jvm.OwnW.lor O2 da_12 hpe1 (q := 13) rfl ?_
  refine Jvm.OwnW.putF O2 da_13 (host := "") (Or.inl (hw _ (List.mem_of_getElem? (i := 32) rfl))) Via.refl F_pending_a1 E_a1 (Or.inl (hw _ (List.mem_of_getElem? (i := 33) rfl))) (hw _ (List.mem_of_getElem? (i := 12) rfl)) (ty := .long) (by decide) rfl rfl (Or.inl (List.mem_cons_self ..)) (q := 16) rfl ?_
  intro T3 h3 O3 W3
  have E_a1 := E_a1.wr W3
  have F_bytes_a1 := F_bytes_a1.other W3 (Or.inr (slot_ne (Or.inr (hw _ (List.mem_of_getElem? (i := 24) rfl))) (Or.inl (hw _ (List.mem_of_getElem? (i := 33) rfl))) (by decide) (t := (.array .byte)) (t' := .long) (by decide) (by decide)))
  have F_index_a1 := F_index_a1.other W3 (Or.inr (slot_ne (Or.inl (hw _ (List.mem_of_getElem? (i := 26) rfl))) (Or.inl (hw _ (List.mem_of_getElem? (i := 33) rfl))) (by decide) (t := .int) (t' := .long) (by decide) (by decide)))
  have F_pending_a1 := F_pending_a1.same W3
  have F_pendingBits_a1 := F_pendingBits_a1.other W3 (Or.inr (slot_ne (Or.inl (hw _ (List.mem_of_getElem? (i := 35) rfl))) (Or.inl (hw _ (List.mem_of_getElem? (i := 33) rfl))) (by decide) (t := .int) (t' := .long) (by decide) (by decide)))
  have V_ab := V_ab.other W3 (Ne.symm n1b)
  refine Jvm.OwnW.aloadN O3 da_16 rfl rfl (q := 17) rfl ?_
  refine Jvm.OwnW.dup O3 da_17 rfl (q := 18) rfl ?_
  refine Jvm.OwnW.getF O3 da_18 (host := "") (Or.inl (hw _ (List.mem_of_getElem? (i := 34) rfl))) Via.refl F_pendingBits_a1 (q := 21) rfl ?_
  intro T4 O4
  refine Jvm.OwnW.iloadN O4 da_21 rfl (q := 22) rfl ?_
  obtain ⟨pb1, hpb1⟩ : ∃ zz_, (pb + p2) = zz_ := ⟨_, rfl⟩
  refine Jvm.OwnW.iadd O4 da_22 hpb1 (q := 23) rfl ?_
  refine Jvm.OwnW.putF O4 da_23 (host := "") (Or.inl (hw _ (List.mem_of_getElem? (i := 34) rfl))) Via.refl F_pendingBits_a1 E_a1 (Or.inl (hw _ (List.mem_of_getElem? (i := 35) rfl))) (hw _ (List.mem_of_getElem? (i := 12) rfl)) (ty := .int) (by decide) rfl rfl (Or.inl (List.mem_cons_self ..)) (q := 26) rfl ?_
  intro T5 h5 O5 W5
  have E_a1 := E_a1.wr W5
  have F_bytes_a1 := F_bytes_a1.other W5 (Or.inr (slot_ne (Or.inr (hw _ (List.mem_of_getElem? (i := 24) rfl))) (Or.inl (hw _ (List.mem_of_getElem? (i := 35) rfl))) (by decide) (t := (.array .byte)) (t' := .int) (by decide) (by decide)))
  have F_index_a1 := F_index_a1.other W5 (Or.inr (slot_ne (Or.inl (hw _ (List.mem_of_getElem? (i := 26) rfl))) (Or.inl (hw _ (List.mem_of_getElem? (i := 35) rfl))) (by decide) (t := .int) (t' := .int) (by decide) (by decide)))
  have F_pending_a1 := F_pending_a1.other W5 (Or.inr (slot_ne (Or.inl (hw _ (List.mem_of_getElem? (i := 33) rfl))) (Or.inl (hw _ (List.mem_of_getElem? (i := 35) rfl))) (by decide) (t := .long) (t' := .int) (by decide) (by decide)))
  have F_pendingBits_a1 := F_pendingBits_a1.same W5
  have V_ab := V_ab.other W5 (Ne.symm n1b)
  obtain ⟨hix, hpe, hpb, hb7, hP, hW⟩ := id hst
  obtain ⟨hpe1v, hP1⟩ := own_or hpe hpb hP hp1 hac (by omega)
  rw [hpe1] at hpe1v
  have hpb1v := own_pbc hpb hp2 (by omega) (by omega)
  rw [hpb1] at hpb1v
  have lp : ∀ (k : Nat) (T6 : State) (h6 : Heap), On l Z [a1, ab] ({ frames := 0, cells := 0, slots := 0, locals := 0 } : Room) "com/example/vary5/vary5/MagnitudeBytes" "add" prog_8_method_2_code 3 none C T6 h6 0 0 → ∀ (Wv Pv jv bv : Nat), ∀ (ixv pbv : Int32), ∀ (pev : Int64), ∀ (hixv : ixv.toInt = ((n - jv : Nat) : Int)), ∀ (hpev : pev.toInt = (Pv : Int)), ∀ (hpbv : pbv.toInt = (bv : Int)), ∀ (hPv : Pv < 2 ^ bv), ∀ (hWv : Wv < 256 ^ jv), ∀ (ht : 8 * jv + bv = 8 * j + b + c), ∀ (hv : Wv + Pv * 256 ^ jv = W + (P + aN * 2 ^ b) * 256 ^ j), ∀ (hk : bv / 8 = k), Exa Z h6 a1 "com/example/vary5/vary5/MagnitudeBytes" → Fld Z h6 a1 "com/example/vary5/vary5/MagnitudeBytes" "bytes" "[B" (.ref ab) → Fld Z h6 a1 "com/example/vary5/vary5/MagnitudeBytes" "index" "I" (.int ixv) → Fld Z h6 a1 "com/example/vary5/vary5/MagnitudeBytes" "pending" "J" (.long pev) → Fld Z h6 a1 "com/example/vary5/vary5/MagnitudeBytes" "pendingBits" "I" (.int pbv) → Ar Z h6 ab .byte n (own_f n Wv) → Go C [a1, ab] (fun v h => v = none ∧ ∃ (W' P' j' b' : Nat) (ix' pb' : Int32) (pe' : Int64), own_st n W' P' j' b' ix' pb' pe' ∧ 8 * j' + b' = 8 * j + b + c ∧ W' + P' * 256 ^ j' = W + P * 256 ^ j + aN * 2 ^ (8 * j + b) ∧ Fld Z h a1 "com/example/vary5/vary5/MagnitudeBytes" "bytes" "[B" (.ref ab) ∧ Fld Z h a1 "com/example/vary5/vary5/MagnitudeBytes" "index" "I" (.int ix') ∧ Fld Z h a1 "com/example/vary5/vary5/MagnitudeBytes" "pending" "J" (.long pe') ∧ Fld Z h a1 "com/example/vary5/vary5/MagnitudeBytes" "pendingBits" "I" (.int pb') ∧ Ar Z h ab .byte n (own_f n W')) 0 0 (T6.setTop (mkF C.m 26 #[.val (.ref a1), .val (.int p1), .val (.int p2)] [])) := by
    intro k
    induction k with
    | zero =>
      intro T6 h6 O6 Wv Pv jv bv ixv pbv pev hixv hpev hpbv hPv hWv ht hv hk E_a1 F_bytes_a1 F_index_a1 F_pending_a1 F_pendingBits_a1 V_ab
      refine Jvm.OwnW.aloadN O6 da_26 rfl rfl (q := 27) rfl ?_
      refine Jvm.OwnW.getF O6 da_27 (host := "") (Or.inl (hw _ (List.mem_of_getElem? (i := 34) rfl))) Via.refl F_pendingBits_a1 (q := 30) rfl ?_
      intro T7 O7
      refine Jvm.OwnW.bipush O7 da_30 (r := (8 : Int32)) rfl (q := 32) rfl ?_
      refine Jvm.OwnW.icmpYes O7 da_32 (tlt (show pbv < (8 : Int32) from lt32 (by rw [hpbv]; show _ < (8 : Int); omega))).1 (by decide) (q := 85) rfl ?_
      exact Jvm.OwnW.ret0 O7 da_85 (by decide) (by decide) ⟨rfl, Wv, Pv, jv, bv, ixv, pbv, pev, ⟨hixv, hpev, hpbv, by omega, hPv, hWv⟩, ht, hv.trans (own_v W P aN b j), F_bytes_a1, F_index_a1, F_pending_a1, F_pendingBits_a1, V_ab⟩
    | succ k ih =>
      intro T6 h6 O6 Wv Pv jv bv ixv pbv pev hixv hpev hpbv hPv hWv ht hv hk E_a1 F_bytes_a1 F_index_a1 F_pending_a1 F_pendingBits_a1 V_ab
      refine Jvm.OwnW.aloadN O6 da_26 rfl rfl (q := 27) rfl ?_
      refine Jvm.OwnW.getF O6 da_27 (host := "") (Or.inl (hw _ (List.mem_of_getElem? (i := 34) rfl))) Via.refl F_pendingBits_a1 (q := 30) rfl ?_
      intro T8 O8
      refine Jvm.OwnW.bipush O8 da_30 (r := (8 : Int32)) rfl (q := 32) rfl ?_
      refine Jvm.OwnW.icmpNo O8 da_32 (flt (show ¬ (pbv < (8 : Int32)) from nlt32 (by rw [hpbv]; show (8 : Int) ≤ _; omega))).1 (q := 35) rfl ?_
      refine Jvm.OwnW.aloadN O8 da_35 rfl rfl (q := 36) rfl ?_
      refine Jvm.OwnW.dup O8 da_36 rfl (q := 37) rfl ?_
      refine Jvm.OwnW.getF O8 da_37 (host := "") (Or.inl (hw _ (List.mem_of_getElem? (i := 25) rfl))) Via.refl F_index_a1 (q := 40) rfl ?_
      intro T9 O9
      refine Jvm.OwnW.iconst O9 da_40 (r := (1 : Int32)) rfl (q := 41) rfl ?_
      obtain ⟨ix2, hix2⟩ : ∃ zz_, (ixv - (1 : Int32)) = zz_ := ⟨_, rfl⟩
      refine Jvm.OwnW.isub O9 da_41 hix2 (q := 42) rfl ?_
      have hix2v := own_ix1 hixv hn10 (by omega)
      rw [hix2] at hix2v
      refine Jvm.OwnW.putF O9 da_42 (host := "") (Or.inl (hw _ (List.mem_of_getElem? (i := 25) rfl))) Via.refl F_index_a1 E_a1 (Or.inl (hw _ (List.mem_of_getElem? (i := 26) rfl))) (hw _ (List.mem_of_getElem? (i := 12) rfl)) (ty := .int) (by decide) rfl rfl (Or.inl (List.mem_cons_self ..)) (q := 45) rfl ?_
      intro T10 h10 O10 W10
      have E_a1 := E_a1.wr W10
      have F_bytes_a1 := F_bytes_a1.other W10 (Or.inr (slot_ne (Or.inr (hw _ (List.mem_of_getElem? (i := 24) rfl))) (Or.inl (hw _ (List.mem_of_getElem? (i := 26) rfl))) (by decide) (t := (.array .byte)) (t' := .int) (by decide) (by decide)))
      have F_index_a1 := F_index_a1.same W10
      have F_pending_a1 := F_pending_a1.other W10 (Or.inr (slot_ne (Or.inl (hw _ (List.mem_of_getElem? (i := 33) rfl))) (Or.inl (hw _ (List.mem_of_getElem? (i := 26) rfl))) (by decide) (t := .long) (t' := .int) (by decide) (by decide)))
      have F_pendingBits_a1 := F_pendingBits_a1.other W10 (Or.inr (slot_ne (Or.inl (hw _ (List.mem_of_getElem? (i := 35) rfl))) (Or.inl (hw _ (List.mem_of_getElem? (i := 26) rfl))) (by decide) (t := .int) (t' := .int) (by decide) (by decide)))
      have V_ab := V_ab.other W10 (Ne.symm n1b)
      refine Jvm.OwnW.aloadN O10 da_45 rfl rfl (q := 46) rfl ?_
      refine Jvm.OwnW.getF O10 da_46 (host := "") (Or.inl (hw _ (List.mem_of_getElem? (i := 23) rfl))) Via.refl F_bytes_a1 (q := 49) rfl ?_
      intro T11 O11
      refine Jvm.OwnW.aloadN O11 da_49 rfl rfl (q := 50) rfl ?_
      refine Jvm.OwnW.getF O11 da_50 (host := "") (Or.inl (hw _ (List.mem_of_getElem? (i := 25) rfl))) Via.refl F_index_a1 (q := 53) rfl ?_
      intro T12 O12
      refine Jvm.OwnW.aloadN O12 da_53 rfl rfl (q := 54) rfl ?_
      refine Jvm.OwnW.getF O12 da_54 (host := "") (Or.inl (hw _ (List.mem_of_getElem? (i := 32) rfl))) Via.refl F_pending_a1 (q := 57) rfl ?_
      intro T13 O13
      refine Jvm.OwnW.l2i O13 da_57 rfl (q := 58) rfl ?_
      refine Jvm.OwnW.i2b O13 da_58 rfl (q := 59) rfl ?_
      refine Jvm.OwnW.basA O13 da_59 V_ab (i := (n - 1 - jv)) hix2v (by omega) (Or.inl (List.mem_cons_of_mem _ (List.mem_cons_self ..))) (y := pev.toInt32.toInt8.toInt32) (b8 _) (q := 60) rfl ?_
      intro T14 h14 O14 W14
      have V_ab := V_ab.set W14 (by omega)
      have E_a1 := E_a1.wr W14
      have F_bytes_a1 := F_bytes_a1.other W14 (Or.inl n1b)
      have F_index_a1 := F_index_a1.other W14 (Or.inl n1b)
      have F_pending_a1 := F_pending_a1.other W14 (Or.inl n1b)
      have F_pendingBits_a1 := F_pendingBits_a1.other W14 (Or.inl n1b)
      have V_ab : Ar Z h14 ab .byte n (own_f n (Wv + Pv % 256 * 256 ^ jv)) := V_ab.congr fun i hi => by rw [own_bV hpev]; exact own_fput hWv (by omega) (by omega) i hi
      refine Jvm.OwnW.aloadN O14 da_60 rfl rfl (q := 61) rfl ?_
      refine Jvm.OwnW.dup O14 da_61 rfl (q := 62) rfl ?_
      refine Jvm.OwnW.getF O14 da_62 (host := "") (Or.inl (hw _ (List.mem_of_getElem? (i := 32) rfl))) Via.refl F_pending_a1 (q := 65) rfl ?_
      intro T15 O15
      refine Jvm.OwnW.bipush O15 da_65 (r := (8 : Int32)) rfl (q := 67) rfl ?_
      obtain ⟨pe2, hpe2⟩ : ∃ zz_, ((pev.toUInt64 >>> ((8 : Int32) &&& 0x3f).toInt64.toUInt64).toInt64) = zz_ := ⟨_, rfl⟩
      refine Jvm.OwnW.lushr O15 da_67 hpe2 (q := 68) rfl ?_
      refine Jvm.OwnW.putF O15 da_68 (host := "") (Or.inl (hw _ (List.mem_of_getElem? (i := 32) rfl))) Via.refl F_pending_a1 E_a1 (Or.inl (hw _ (List.mem_of_getElem? (i := 33) rfl))) (hw _ (List.mem_of_getElem? (i := 12) rfl)) (ty := .long) (by decide) rfl rfl (Or.inl (List.mem_cons_self ..)) (q := 71) rfl ?_
      intro T16 h16 O16 W16
      have E_a1 := E_a1.wr W16
      have F_bytes_a1 := F_bytes_a1.other W16 (Or.inr (slot_ne (Or.inr (hw _ (List.mem_of_getElem? (i := 24) rfl))) (Or.inl (hw _ (List.mem_of_getElem? (i := 33) rfl))) (by decide) (t := (.array .byte)) (t' := .long) (by decide) (by decide)))
      have F_index_a1 := F_index_a1.other W16 (Or.inr (slot_ne (Or.inl (hw _ (List.mem_of_getElem? (i := 26) rfl))) (Or.inl (hw _ (List.mem_of_getElem? (i := 33) rfl))) (by decide) (t := .int) (t' := .long) (by decide) (by decide)))
      have F_pending_a1 := F_pending_a1.same W16
      have F_pendingBits_a1 := F_pendingBits_a1.other W16 (Or.inr (slot_ne (Or.inl (hw _ (List.mem_of_getElem? (i := 35) rfl))) (Or.inl (hw _ (List.mem_of_getElem? (i := 33) rfl))) (by decide) (t := .int) (t' := .long) (by decide) (by decide)))
      have V_ab := V_ab.other W16 (Ne.symm n1b)
      refine Jvm.OwnW.aloadN O16 da_71 rfl rfl (q := 72) rfl ?_
      refine Jvm.OwnW.dup O16 da_72 rfl (q := 73) rfl ?_
      refine Jvm.OwnW.getF O16 da_73 (host := "") (Or.inl (hw _ (List.mem_of_getElem? (i := 34) rfl))) Via.refl F_pendingBits_a1 (q := 76) rfl ?_
      intro T17 O17
      refine Jvm.OwnW.bipush O17 da_76 (r := (8 : Int32)) rfl (q := 78) rfl ?_
      obtain ⟨pb2, hpb2⟩ : ∃ zz_, (pbv - (8 : Int32)) = zz_ := ⟨_, rfl⟩
      refine Jvm.OwnW.isub O17 da_78 hpb2 (q := 79) rfl ?_
      refine Jvm.OwnW.putF O17 da_79 (host := "") (Or.inl (hw _ (List.mem_of_getElem? (i := 34) rfl))) Via.refl F_pendingBits_a1 E_a1 (Or.inl (hw _ (List.mem_of_getElem? (i := 35) rfl))) (hw _ (List.mem_of_getElem? (i := 12) rfl)) (ty := .int) (by decide) rfl rfl (Or.inl (List.mem_cons_self ..)) (q := 82) rfl ?_
      intro T18 h18 O18 W18
      have E_a1 := E_a1.wr W18
      have F_bytes_a1 := F_bytes_a1.other W18 (Or.inr (slot_ne (Or.inr (hw _ (List.mem_of_getElem? (i := 24) rfl))) (Or.inl (hw _ (List.mem_of_getElem? (i := 35) rfl))) (by decide) (t := (.array .byte)) (t' := .int) (by decide) (by decide)))
      have F_index_a1 := F_index_a1.other W18 (Or.inr (slot_ne (Or.inl (hw _ (List.mem_of_getElem? (i := 26) rfl))) (Or.inl (hw _ (List.mem_of_getElem? (i := 35) rfl))) (by decide) (t := .int) (t' := .int) (by decide) (by decide)))
      have F_pending_a1 := F_pending_a1.other W18 (Or.inr (slot_ne (Or.inl (hw _ (List.mem_of_getElem? (i := 33) rfl))) (Or.inl (hw _ (List.mem_of_getElem? (i := 35) rfl))) (by decide) (t := .long) (t' := .int) (by decide) (by decide)))
      have F_pendingBits_a1 := F_pendingBits_a1.same W18
      have V_ab := V_ab.other W18 (Ne.symm n1b)
      refine Jvm.OwnW.goto O18 da_82 (by decide) (q := 26) rfl ?_
      exact ih _ _ O18 (Wv + Pv % 256 * 256 ^ jv) (Pv / 256) (jv + 1) (bv - 8) _ _ _ (by rw [hix2v]; omega) (by rw [← hpe2]; exact own_us8 hpev) (by rw [← hpb2]; exact own_pb8 hpbv (by omega) (by omega)) (own_loop hWv hPv (by omega)).2.2 (own_loop hWv hPv (by omega)).2.1 (by omega) ((own_loop hWv hPv (by omega)).1.trans hv) (by omega) E_a1 F_bytes_a1 F_index_a1 F_pending_a1 F_pendingBits_a1 V_ab
  exact lp ((b + c) / 8) _ _ O5 W (P + aN * 2 ^ b) j (b + c) _ _ _ hix hpe1v hpb1v hP1 hW (by omega) rfl rfl E_a1 F_bytes_a1 F_index_a1 F_pending_a1 F_pendingBits_a1 V_ab
theorem dK_0 : decode jdk_41_method_13_code 0 = .ok (.iload_n 2, 1) := by decide +kernel
theorem dK_1 : decode jdk_41_method_13_code 1 = .ok (.iload_n 0, 1) := by decide +kernel
theorem dK_2 : decode jdk_41_method_13_code 2 = .ok (.ior, 1) := by decide +kernel
theorem dK_3 : decode jdk_41_method_13_code 3 = .ok (.iload_n 1, 1) := by decide +kernel
theorem dK_4 : decode jdk_41_method_13_code 4 = .ok (.ior, 1) := by decide +kernel
theorem dK_5 : decode jdk_41_method_13_code 5 = .ok (.ifCond .lt 10, 3) := by decide +kernel
theorem dK_8 : decode jdk_41_method_13_code 8 = .ok (.iload_n 1, 1) := by decide +kernel
theorem dK_9 : decode jdk_41_method_13_code 9 = .ok (.iload_n 2, 1) := by decide +kernel
theorem dK_10 : decode jdk_41_method_13_code 10 = .ok (.iload_n 0, 1) := by decide +kernel
theorem dK_11 : decode jdk_41_method_13_code 11 = .ok (.isub, 1) := by decide +kernel
theorem dK_12 : decode jdk_41_method_13_code 12 = .ok (.if_icmp .le 11, 3) := by decide +kernel
theorem dK_23 : decode jdk_41_method_13_code 23 = .ok (.iload_n 0, 1) := by decide +kernel
theorem dK_24 : decode jdk_41_method_13_code 24 = .ok (.ireturn, 1) := by decide +kernel
theorem ef_K (zn : Int32) (m : MethodId) : entryFrame m #[(.int (0 : Int32)), (.int zn), (.int zn), .null] 4 = mkF m 0 #[.val (.int (0 : Int32)), .val (.int zn), .val (.int zn), .val .null] [] := by first | (simp [entryFrame, mkF, argsToLocals, Value.category, maxLocals]; done) | rfl
theorem pn_K : plainFor (⟨"jdk/internal/util/Preconditions", "checkFromIndexSize", "(IIILjava/util/function/BiFunction;)I"⟩ : MethodName) = true := by first | exact plainFor_of_name (by first | (simp [plainName, overriddenIn]; done) | decide +kernel) | decide +kernel
set_option maxRecDepth 65536 in
set_option maxHeartbeats 40000000 in
theorem rm_K (l : Launch) (Z : State) (a0 : Array Value) (hw : ∀ d ∈ tables_1, d.before a0 Z = true) (zn : Int32) (h0 : Heap) (hz0 : 0 ≤ zn.toInt) :
    Met l Z (⟨"jdk/internal/util/Preconditions", "checkFromIndexSize", "(IIILjava/util/function/BiFunction;)I"⟩ : MethodName) jdk_41_method_13_code 4 (some .int) [] ({ frames := 0, cells := 0, slots := 0, locals := 0 } : Room) #[(.int (0 : Int32)), (.int zn), (.int zn), .null] [] h0 (fun v h => v = some (.int 0)) := by
  refine Met.mk pn_K (ef_K zn) ?_
  intro C T hs0 O
  show Go C [] (fun v h => v = some (.int 0)) 0 0 (T.setTop (mkF C.m 0 #[.val (.int (0 : Int32)), .val (.int zn), .val (.int zn), .val .null] []))
  refine Jvm.OwnW.iloadN O dK_0 rfl (q := 1) rfl ?_
  refine Jvm.OwnW.iloadN O dK_1 rfl (q := 2) rfl ?_
  refine Jvm.OwnW.ior O dK_2 rfl (q := 3) rfl ?_
  refine Jvm.OwnW.iloadN O dK_3 rfl (q := 4) rfl ?_
  refine Jvm.OwnW.ior O dK_4 rfl (q := 5) rfl ?_
  refine Jvm.OwnW.ifNo O dK_5 (flt0 (show ¬ (((zn ||| (0 : Int32)) ||| zn) < (0 : Int32)) from (by rw [Int32.or_zero, Int32.or_self]; exact nlt32 hz0))).1 (q := 8) rfl ?_
  refine Jvm.OwnW.iloadN O dK_8 rfl (q := 9) rfl ?_
  refine Jvm.OwnW.iloadN O dK_9 rfl (q := 10) rfl ?_
  refine Jvm.OwnW.iloadN O dK_10 rfl (q := 11) rfl ?_
  refine Jvm.OwnW.isub O dK_11 rfl (q := 12) rfl ?_
  refine Jvm.OwnW.icmpYes O dK_12 (flt (show ¬ ((zn - (0 : Int32)) < zn) from (by rw [Int32.sub_zero]; exact nlt32 (Int.le_refl _)))).2.2.2 (by decide) (q := 23) rfl ?_
  refine Jvm.OwnW.iloadN O dK_23 rfl (q := 24) rfl ?_
  exact Jvm.OwnW.retI O dK_24 rfl (by decide) (by decide) rfl
theorem pd_0 : parseMethodDescriptor "(IIILjava/util/function/BiFunction;)I" = some ⟨[.int, .int, .int, (.object "java/util/function/BiFunction")], some .int⟩ := by decide +kernel
theorem dk_0 : decode jdk_31_method_19_code 0 = .ok (.iload_n 0, 1) := by decide +kernel
theorem dk_1 : decode jdk_31_method_19_code 1 = .ok (.iload_n 1, 1) := by decide +kernel
theorem dk_2 : decode jdk_31_method_19_code 2 = .ok (.iload_n 2, 1) := by decide +kernel
theorem dk_3 : decode jdk_31_method_19_code 3 = .ok (.aconst_null, 1) := by decide +kernel
theorem dk_4 : decode jdk_31_method_19_code 4 = .ok (.invokestatic 115, 3) := by decide +kernel
theorem dk_7 : decode jdk_31_method_19_code 7 = .ok (.ireturn, 1) := by decide +kernel
theorem ef_k (zn : Int32) (m : MethodId) : entryFrame m #[(.int (0 : Int32)), (.int zn), (.int zn)] 3 = mkF m 0 #[.val (.int (0 : Int32)), .val (.int zn), .val (.int zn)] [] := by first | (simp [entryFrame, mkF, argsToLocals, Value.category, maxLocals]; done) | rfl
theorem pn_k : plainFor (⟨"java/util/Objects", "checkFromIndexSize", "(III)I"⟩ : MethodName) = true := by first | exact plainFor_of_name (by first | (simp [plainName, overriddenIn]; done) | decide +kernel) | decide +kernel
set_option maxRecDepth 65536 in
set_option maxHeartbeats 40000000 in
theorem rm_k (l : Launch) (Z : State) (a0 : Array Value) (hw : ∀ d ∈ tables_1, d.before a0 Z = true) (zn : Int32) (h0 : Heap) (hz0 : 0 ≤ zn.toInt) :
    Met l Z (⟨"java/util/Objects", "checkFromIndexSize", "(III)I"⟩ : MethodName) jdk_31_method_19_code 3 (some .int) [] ({ frames := 1, cells := 0, slots := 0, locals := 15 } : Room) #[(.int (0 : Int32)), (.int zn), (.int zn)] [] h0 (fun v h => v = some (.int 0)) := by
  refine Met.mk pn_k (ef_k zn) ?_
  intro C T hs0 O
  show Go C [] (fun v h => v = some (.int 0)) 0 0 (T.setTop (mkF C.m 0 #[.val (.int (0 : Int32)), .val (.int zn), .val (.int zn)] []))
  refine Jvm.OwnW.iloadN O dk_0 rfl (q := 1) rfl ?_
  refine Jvm.OwnW.iloadN O dk_1 rfl (q := 2) rfl ?_
  refine Jvm.OwnW.iloadN O dk_2 rfl (q := 3) rfl ?_
  refine Jvm.OwnW.aconst_null O dk_3 (q := 4) rfl ?_
  refine Jvm.OwnW.callS0 O (y := (⟨"jdk/internal/util/Preconditions", "checkFromIndexSize", "(IIILjava/util/function/BiFunction;)I"⟩ : MethodName)) (argsL := [(.int (0 : Int32)), (.int zn), (.int zn), .null]) (rest := []) dk_4 (hw _ (List.mem_of_getElem? (i := 62) rfl)) (hw _ (List.mem_of_getElem? (i := 63) rfl)) (hw _ (List.mem_of_getElem? (i := 64) rfl)) (hw _ (List.mem_of_getElem? (i := 65) rfl)) (by decide) (rm_K l Z a0 hw zn h0 hz0) rfl pd_0 rfl (hst := rfl) (W := 0) (Nat.le_of_eq rfl) (by decide) (by decide) (c2 := 0) (s2 := 0) rfl rfl (by decide) (by decide) rfl rfl (q := 7) rfl ?_
  intro v1 T1 O1 q1
  obtain rfl := q1
  show Go C _ _ _ _ (T1.setTop (mkF C.m 7 #[.val (.int (0 : Int32)), .val (.int zn), .val (.int zn)] [(.int (0 : Int32))]))
  exact Jvm.OwnW.retI O1 dk_7 rfl (by decide) (by decide) rfl
theorem du_0 : decode jdk_18_method_1_code 0 = .ok (.aload_n 0, 1) := by decide +kernel
theorem du_1 : decode jdk_18_method_1_code 1 = .ok (.invokespecial 1, 3) := by decide +kernel
theorem du_4 : decode jdk_18_method_1_code 4 = .ok (.return_, 1) := by decide +kernel
theorem ef_u (a1 : Addr) (m : MethodId) : entryFrame m #[(.ref a1)] 1 = mkF m 0 #[.val (.ref a1)] [] := by first | (simp [entryFrame, mkF, argsToLocals, Value.category, maxLocals]; done) | rfl
theorem pn_u : plainFor (⟨"java/lang/Number", "<init>", "()V"⟩ : MethodName) = true := by first | exact plainFor_of_name (by first | (simp [plainName, overriddenIn]; done) | decide +kernel) | decide +kernel
set_option maxRecDepth 65536 in
set_option maxHeartbeats 40000000 in
theorem rm_u (l : Launch) (Z : State) (a0 : Array Value) (hw : ∀ d ∈ tables_1, d.before a0 Z = true) (a1 : Addr) (h0 : Heap)  :
    Met l Z (⟨"java/lang/Number", "<init>", "()V"⟩ : MethodName) jdk_18_method_1_code 1 none [] ({ frames := 1, cells := 0, slots := 0, locals := 12 } : Room) #[(.ref a1)] [] h0 (fun v h => v = none) := by
  refine Met.mk pn_u (ef_u a1) ?_
  intro C T hs0 O
  show Go C [] (fun v h => v = none) 0 0 (T.setTop (mkF C.m 0 #[.val (.ref a1)] []))
  refine Jvm.OwnW.aloadN O du_0 rfl rfl (q := 1) rfl ?_
  refine Jvm.OwnW.initO O du_1 (hw _ (List.mem_of_getElem? (i := 57) rfl)) (hw _ (List.mem_of_getElem? (i := 18) rfl)) (hw _ (List.mem_of_getElem? (i := 19) rfl)) rfl (by decide) (W := 0) (Nat.le_of_eq rfl) (by decide) (q := 4) rfl ?_
  intro T1 O1
  exact Jvm.OwnW.ret0 O1 du_4 (by decide) (by decide) rfl
theorem dS_0 : decode jdk_2097_method_142_code 0 = .ok (.iload_n 3, 1) := by decide +kernel
theorem dS_1 : decode jdk_2097_method_142_code 1 = .ok (.ifCond .ne 10, 3) := by decide +kernel
theorem dS_4 : decode jdk_2097_method_142_code 4 = .ok (.getstatic 22, 3) := by decide +kernel
theorem dS_7 : decode jdk_2097_method_142_code 7 = .ok (.getfield 28, 3) := by decide +kernel
theorem dS_10 : decode jdk_2097_method_142_code 10 = .ok (.areturn, 1) := by decide +kernel
theorem dS_11 : decode jdk_2097_method_142_code 11 = .ok (.iload_n 2, 1) := by decide +kernel
theorem dS_12 : decode jdk_2097_method_142_code 12 = .ok (.iload_n 3, 1) := by decide +kernel
theorem dS_13 : decode jdk_2097_method_142_code 13 = .ok (.iadd, 1) := by decide +kernel
theorem dS_14 : decode jdk_2097_method_142_code 14 = .ok (.istore 4, 2) := by decide +kernel
theorem dS_16 : decode jdk_2097_method_142_code 16 = .ok (.iload_n 0, 1) := by decide +kernel
theorem dS_17 : decode jdk_2097_method_142_code 17 = .ok (.bipush (-128), 2) := by decide +kernel
theorem dS_19 : decode jdk_2097_method_142_code 19 = .ok (.if_icmp .ge 7, 3) := by decide +kernel
theorem dS_22 : decode jdk_2097_method_142_code 22 = .ok (.aload_n 1, 1) := by decide +kernel
theorem dS_23 : decode jdk_2097_method_142_code 23 = .ok (.iload_n 2, 1) := by decide +kernel
theorem dS_24 : decode jdk_2097_method_142_code 24 = .ok (.baload, 1) := by decide +kernel
theorem dS_25 : decode jdk_2097_method_142_code 25 = .ok (.istore_n 0, 1) := by decide +kernel
theorem dS_26 : decode jdk_2097_method_142_code 26 = .ok (.iinc 2 1, 3) := by decide +kernel
theorem dS_29 : decode jdk_2097_method_142_code 29 = .ok (.iload_n 0, 1) := by decide +kernel
theorem dS_30 : decode jdk_2097_method_142_code 30 = .ok (.ifCond .ne 19, 3) := by decide +kernel
theorem dS_33 : decode jdk_2097_method_142_code 33 = .ok (.iload_n 2, 1) := by decide +kernel
theorem dS_34 : decode jdk_2097_method_142_code 34 = .ok (.iload 4, 2) := by decide +kernel
theorem dS_36 : decode jdk_2097_method_142_code 36 = .ok (.if_icmp .ge 13, 3) := by decide +kernel
theorem dS_39 : decode jdk_2097_method_142_code 39 = .ok (.aload_n 1, 1) := by decide +kernel
theorem dS_40 : decode jdk_2097_method_142_code 40 = .ok (.iload_n 2, 1) := by decide +kernel
theorem dS_41 : decode jdk_2097_method_142_code 41 = .ok (.iinc 2 1, 3) := by decide +kernel
theorem dS_44 : decode jdk_2097_method_142_code 44 = .ok (.baload, 1) := by decide +kernel
theorem dS_45 : decode jdk_2097_method_142_code 45 = .ok (.istore_n 0, 1) := by decide +kernel
theorem dS_46 : decode jdk_2097_method_142_code 46 = .ok (.goto (-17), 3) := by decide +kernel
theorem dS_49 : decode jdk_2097_method_142_code 49 = .ok (.iload_n 0, 1) := by decide +kernel
theorem dS_50 : decode jdk_2097_method_142_code 50 = .ok (.ifCond .ne 10, 3) := by decide +kernel
theorem dS_53 : decode jdk_2097_method_142_code 53 = .ok (.getstatic 22, 3) := by decide +kernel
theorem dS_56 : decode jdk_2097_method_142_code 56 = .ok (.getfield 28, 3) := by decide +kernel
theorem dS_59 : decode jdk_2097_method_142_code 59 = .ok (.areturn, 1) := by decide +kernel
theorem dS_60 : decode jdk_2097_method_142_code 60 = .ok (.iload 4, 2) := by decide +kernel
theorem dS_62 : decode jdk_2097_method_142_code 62 = .ok (.iload_n 2, 1) := by decide +kernel
theorem dS_63 : decode jdk_2097_method_142_code 63 = .ok (.isub, 1) := by decide +kernel
theorem dS_64 : decode jdk_2097_method_142_code 64 = .ok (.iconst 2, 1) := by decide +kernel
theorem dS_65 : decode jdk_2097_method_142_code 65 = .ok (.ishr, 1) := by decide +kernel
theorem dS_66 : decode jdk_2097_method_142_code 66 = .ok (.iconst 1, 1) := by decide +kernel
theorem dS_67 : decode jdk_2097_method_142_code 67 = .ok (.iadd, 1) := by decide +kernel
theorem dS_68 : decode jdk_2097_method_142_code 68 = .ok (.newarray .int, 2) := by decide +kernel
theorem dS_70 : decode jdk_2097_method_142_code 70 = .ok (.astore 5, 2) := by decide +kernel
theorem dS_72 : decode jdk_2097_method_142_code 72 = .ok (.iload_n 0, 1) := by decide +kernel
theorem dS_73 : decode jdk_2097_method_142_code 73 = .ok (.sipush 255, 3) := by decide +kernel
theorem dS_76 : decode jdk_2097_method_142_code 76 = .ok (.iand, 1) := by decide +kernel
theorem dS_77 : decode jdk_2097_method_142_code 77 = .ok (.istore 6, 2) := by decide +kernel
theorem dS_79 : decode jdk_2097_method_142_code 79 = .ok (.iload 4, 2) := by decide +kernel
theorem dS_81 : decode jdk_2097_method_142_code 81 = .ok (.iload_n 2, 1) := by decide +kernel
theorem dS_82 : decode jdk_2097_method_142_code 82 = .ok (.isub, 1) := by decide +kernel
theorem dS_83 : decode jdk_2097_method_142_code 83 = .ok (.iconst 3, 1) := by decide +kernel
theorem dS_84 : decode jdk_2097_method_142_code 84 = .ok (.iand, 1) := by decide +kernel
theorem dS_85 : decode jdk_2097_method_142_code 85 = .ok (.ifCond .eq 24, 3) := by decide +kernel
theorem dS_88 : decode jdk_2097_method_142_code 88 = .ok (.iload 6, 2) := by decide +kernel
theorem dS_90 : decode jdk_2097_method_142_code 90 = .ok (.bipush 8, 2) := by decide +kernel
theorem dS_92 : decode jdk_2097_method_142_code 92 = .ok (.ishl, 1) := by decide +kernel
theorem dS_93 : decode jdk_2097_method_142_code 93 = .ok (.aload_n 1, 1) := by decide +kernel
theorem dS_94 : decode jdk_2097_method_142_code 94 = .ok (.iload_n 2, 1) := by decide +kernel
theorem dS_95 : decode jdk_2097_method_142_code 95 = .ok (.iinc 2 1, 3) := by decide +kernel
theorem dS_98 : decode jdk_2097_method_142_code 98 = .ok (.baload, 1) := by decide +kernel
theorem dS_99 : decode jdk_2097_method_142_code 99 = .ok (.sipush 255, 3) := by decide +kernel
theorem dS_102 : decode jdk_2097_method_142_code 102 = .ok (.iand, 1) := by decide +kernel
theorem dS_103 : decode jdk_2097_method_142_code 103 = .ok (.ior, 1) := by decide +kernel
theorem dS_104 : decode jdk_2097_method_142_code 104 = .ok (.istore 6, 2) := by decide +kernel
theorem dS_106 : decode jdk_2097_method_142_code 106 = .ok (.goto (-27), 3) := by decide +kernel
theorem dS_109 : decode jdk_2097_method_142_code 109 = .ok (.aload 5, 2) := by decide +kernel
theorem dS_111 : decode jdk_2097_method_142_code 111 = .ok (.iconst 0, 1) := by decide +kernel
theorem dS_112 : decode jdk_2097_method_142_code 112 = .ok (.iload 6, 2) := by decide +kernel
theorem dS_114 : decode jdk_2097_method_142_code 114 = .ok (.iastore, 1) := by decide +kernel
theorem dS_115 : decode jdk_2097_method_142_code 115 = .ok (.iconst 1, 1) := by decide +kernel
theorem dS_116 : decode jdk_2097_method_142_code 116 = .ok (.istore 7, 2) := by decide +kernel
theorem dS_118 : decode jdk_2097_method_142_code 118 = .ok (.iload_n 2, 1) := by decide +kernel
theorem dS_119 : decode jdk_2097_method_142_code 119 = .ok (.iload 4, 2) := by decide +kernel
theorem dS_121 : decode jdk_2097_method_142_code 121 = .ok (.if_icmp .ge 62, 3) := by decide +kernel
theorem dS_124 : decode jdk_2097_method_142_code 124 = .ok (.aload 5, 2) := by decide +kernel
theorem dS_126 : decode jdk_2097_method_142_code 126 = .ok (.iload 7, 2) := by decide +kernel
theorem dS_128 : decode jdk_2097_method_142_code 128 = .ok (.iinc 7 1, 3) := by decide +kernel
theorem dS_131 : decode jdk_2097_method_142_code 131 = .ok (.aload_n 1, 1) := by decide +kernel
theorem dS_132 : decode jdk_2097_method_142_code 132 = .ok (.iload_n 2, 1) := by decide +kernel
theorem dS_133 : decode jdk_2097_method_142_code 133 = .ok (.iinc 2 1, 3) := by decide +kernel
theorem dS_136 : decode jdk_2097_method_142_code 136 = .ok (.baload, 1) := by decide +kernel
theorem dS_137 : decode jdk_2097_method_142_code 137 = .ok (.bipush 24, 2) := by decide +kernel
theorem dS_139 : decode jdk_2097_method_142_code 139 = .ok (.ishl, 1) := by decide +kernel
theorem dS_140 : decode jdk_2097_method_142_code 140 = .ok (.aload_n 1, 1) := by decide +kernel
theorem dS_141 : decode jdk_2097_method_142_code 141 = .ok (.iload_n 2, 1) := by decide +kernel
theorem dS_142 : decode jdk_2097_method_142_code 142 = .ok (.iinc 2 1, 3) := by decide +kernel
theorem dS_145 : decode jdk_2097_method_142_code 145 = .ok (.baload, 1) := by decide +kernel
theorem dS_146 : decode jdk_2097_method_142_code 146 = .ok (.sipush 255, 3) := by decide +kernel
theorem dS_149 : decode jdk_2097_method_142_code 149 = .ok (.iand, 1) := by decide +kernel
theorem dS_150 : decode jdk_2097_method_142_code 150 = .ok (.bipush 16, 2) := by decide +kernel
theorem dS_152 : decode jdk_2097_method_142_code 152 = .ok (.ishl, 1) := by decide +kernel
theorem dS_153 : decode jdk_2097_method_142_code 153 = .ok (.ior, 1) := by decide +kernel
theorem dS_154 : decode jdk_2097_method_142_code 154 = .ok (.aload_n 1, 1) := by decide +kernel
theorem dS_155 : decode jdk_2097_method_142_code 155 = .ok (.iload_n 2, 1) := by decide +kernel
theorem dS_156 : decode jdk_2097_method_142_code 156 = .ok (.iinc 2 1, 3) := by decide +kernel
theorem dS_159 : decode jdk_2097_method_142_code 159 = .ok (.baload, 1) := by decide +kernel
theorem dS_160 : decode jdk_2097_method_142_code 160 = .ok (.sipush 255, 3) := by decide +kernel
theorem dS_163 : decode jdk_2097_method_142_code 163 = .ok (.iand, 1) := by decide +kernel
theorem dS_164 : decode jdk_2097_method_142_code 164 = .ok (.bipush 8, 2) := by decide +kernel
theorem dS_166 : decode jdk_2097_method_142_code 166 = .ok (.ishl, 1) := by decide +kernel
theorem dS_167 : decode jdk_2097_method_142_code 167 = .ok (.ior, 1) := by decide +kernel
theorem dS_168 : decode jdk_2097_method_142_code 168 = .ok (.aload_n 1, 1) := by decide +kernel
theorem dS_169 : decode jdk_2097_method_142_code 169 = .ok (.iload_n 2, 1) := by decide +kernel
theorem dS_170 : decode jdk_2097_method_142_code 170 = .ok (.iinc 2 1, 3) := by decide +kernel
theorem dS_173 : decode jdk_2097_method_142_code 173 = .ok (.baload, 1) := by decide +kernel
theorem dS_174 : decode jdk_2097_method_142_code 174 = .ok (.sipush 255, 3) := by decide +kernel
theorem dS_177 : decode jdk_2097_method_142_code 177 = .ok (.iand, 1) := by decide +kernel
theorem dS_178 : decode jdk_2097_method_142_code 178 = .ok (.ior, 1) := by decide +kernel
theorem dS_179 : decode jdk_2097_method_142_code 179 = .ok (.iastore, 1) := by decide +kernel
theorem dS_180 : decode jdk_2097_method_142_code 180 = .ok (.goto (-62), 3) := by decide +kernel
theorem dS_183 : decode jdk_2097_method_142_code 183 = .ok (.aload 5, 2) := by decide +kernel
theorem dS_185 : decode jdk_2097_method_142_code 185 = .ok (.areturn, 1) := by decide +kernel
theorem ef_S (ab : Addr) (zn : Int32) (zo zm : Addr) (m : MethodId) : entryFrame m #[(.int (-2147483648 : Int32)), (.ref ab), (.int (0 : Int32)), (.int zn)] 8 = mkF m 0 #[.val (.int (-2147483648 : Int32)), .val (.ref ab), .val (.int (0 : Int32)), .val (.int zn), .unset, .unset, .unset, .unset] [] := by first | (simp [entryFrame, mkF, argsToLocals, Value.category, maxLocals]; done) | rfl
theorem pn_S : plainFor (⟨"java/math/BigInteger", "stripLeadingZeroBytes", "(I[BII)[I"⟩ : MethodName) = true := by first | exact plainFor_of_name (by first | (simp [plainName, overriddenIn]; done) | decide +kernel) | decide +kernel
set_option maxRecDepth 65536 in
set_option maxHeartbeats 40000000 in
theorem rm_S (l : Launch) (Z : State) (a0 : Array Value) (hw : ∀ d ∈ tables_1, d.before a0 Z = true) (ab : Addr) (zn : Int32) (zo zm : Addr) (n V : Nat) (h0 : Heap) (V_ab : Ar Z h0 ab .byte n (own_f n V)) (S_Z : Sta Z h0 "java/math/BigInteger" "ZERO" "Ljava/math/BigInteger;" (.ref zo)) (F_mag_zo : Fld Z h0 zo "java/math/BigInteger" "mag" "[I" (.ref zm)) (V_zm : Ar Z h0 zm .int 0 (lf [])) (hzn : zn.toInt = (n : Int)) (hn10 : n ≤ 10) (hV : V < 256 ^ n) (hV64 : V < 18446744073709551616) :
    Met l Z (⟨"java/math/BigInteger", "stripLeadingZeroBytes", "(I[BII)[I"⟩ : MethodName) jdk_2097_method_142_code 8 (some (.array .int)) [] ({ frames := 0, cells := 1, slots := 2, locals := 0 } : Room) #[(.int (-2147483648 : Int32)), (.ref ab), (.int (0 : Int32)), (.int zn)] [] h0 (fun v h => ∃ mg, v = some (.ref mg) ∧ (mg = zm ∨ h0.size ≤ mg) ∧ own_mag Z h mg V) := by
  refine Met.mk pn_S (ef_S ab zn zo zm) ?_
  intro C T hs0 O
  show Go C [] (fun v h => ∃ mg, v = some (.ref mg) ∧ (mg = zm ∨ h0.size ≤ mg) ∧ own_mag Z h mg V) 1 2 (T.setTop (mkF C.m 0 #[.val (.int (-2147483648 : Int32)), .val (.ref ab), .val (.int (0 : Int32)), .val (.int zn), .unset, .unset, .unset, .unset] []))
  refine Jvm.OwnW.iloadN O dS_0 rfl (q := 1) rfl ?_
  by_cases hc1 : zn = (0 : Int32)
  · refine Jvm.OwnW.ifNo O dS_1 (teq0 hc1).2 (q := 4) rfl ?_
    have hV0 : V = 0 := by
      have q : n = 0 := by rw [hc1] at hzn; have : (0 : Int32).toInt = 0 := rfl; omega
      subst q; rw [Nat.pow_zero] at hV; omega
    refine Jvm.OwnW.getS O dS_4 (hw _ (List.mem_of_getElem? (i := 73) rfl)) S_Z (q := 7) rfl ?_
    intro T1 O1
    refine Jvm.OwnW.getF O1 dS_7 (host := "") (Or.inl (hw _ (List.mem_of_getElem? (i := 74) rfl))) Via.refl F_mag_zo (q := 10) rfl ?_
    intro T2 O2
    exact Jvm.OwnW.retA O2 dS_10 rfl rfl (by first | rfl | (cases ((.ref zm)) <;> rfl)) (by decide) (by decide) ⟨zm, rfl, Or.inl rfl, Or.inl ⟨hV0, V_zm⟩⟩
  · refine Jvm.OwnW.ifYes O dS_1 (feq0 hc1).2 (by decide) (q := 11) rfl ?_
    have hn0 : 0 < n := by
      rcases Nat.eq_zero_or_pos n with q | q
      · exact absurd (eq32 (by rw [hzn, q]; rfl)) hc1
      · exact q
    refine Jvm.OwnW.iloadN O dS_11 rfl (q := 12) rfl ?_
    refine Jvm.OwnW.iloadN O dS_12 rfl (q := 13) rfl ?_
    obtain ⟨en, hen⟩ : ∃ zz_, ((0 : Int32) + zn) = zz_ := ⟨_, rfl⟩
    refine Jvm.OwnW.iadd O dS_13 hen (q := 14) rfl ?_
    have henv : en.toInt = (n : Int) := by rw [← hen, Int32.zero_add]; exact hzn
    refine Jvm.OwnW.istore O dS_14 (L' := #[.val (.int (-2147483648 : Int32)), .val (.ref ab), .val (.int (0 : Int32)), .val (.int zn), .val (.int en), .unset, .unset, .unset]) rfl (q := 16) rfl ?_
    refine Jvm.OwnW.iloadN O dS_16 rfl (q := 17) rfl ?_
    refine Jvm.OwnW.bipush O dS_17 (r := (-128 : Int32)) rfl (q := 19) rfl ?_
    refine Jvm.OwnW.icmpNo O dS_19 (tlt (show (-2147483648 : Int32) < (-128 : Int32) from (by decide))).2.1 (q := 22) rfl ?_
    refine Jvm.OwnW.aloadN O dS_22 rfl rfl (q := 23) rfl ?_
    refine Jvm.OwnW.iloadN O dS_23 rfl (q := 24) rfl ?_
    refine Jvm.OwnW.balA O dS_24 V_ab (i := 0) rfl hn0 (v := (.int (own_b (own_d V (n - 1 - 0))))) rfl (q := 25) rfl ?_
    refine Jvm.OwnW.istoreN O dS_25 (L' := #[.val (.int (own_b (own_d V (n - 1 - 0)))), .val (.ref ab), .val (.int (0 : Int32)), .val (.int zn), .val (.int en), .unset, .unset, .unset]) rfl (q := 26) rfl ?_
    refine Jvm.OwnW.iinc O dS_26 rfl (L' := #[.val (.int (own_b (own_d V (n - 1 - 0)))), .val (.ref ab), .val (.int (1 : Int32)), .val (.int zn), .val (.int en), .unset, .unset, .unset]) rfl (q := 29) rfl ?_
    have J60 : ∀ (T3 : State), On l Z [] ({ frames := 0, cells := 1, slots := 2, locals := 0 } : Room) "java/math/BigInteger" "stripLeadingZeroBytes" jdk_2097_method_142_code 8 (some (.array .int)) C T3 h0 0 0 → ∀ (i : Nat), ∀ (z : Int32), ∀ (bb : Int32), ∀ (hz : z.toInt = ((i + 1 : Nat) : Int)), ∀ (hi1 : i < n), ∀ (hb : bb = own_b (own_d V (n - 1 - i))), ∀ (hVi : V < 256 ^ (n - i)), ∀ (hnz : bb ≠ 0), Go C [] (fun v h => ∃ mg, v = some (.ref mg) ∧ (mg = zm ∨ h0.size ≤ mg) ∧ own_mag Z h mg V) 1 2 (T3.setTop (mkF C.m 60 #[.val (.int bb), .val (.ref ab), .val (.int z), .val (.int zn), .val (.int en), .unset, .unset, .unset] [])) := by
      intro T3 O3 i z bb hz hi1 hb hVi hnz 
      refine Jvm.OwnW.iload O3 dS_60 rfl (q := 62) rfl ?_
      have hlo := own_dn (V := V) (e := n - 1 - i) (fun q => hnz (hb.trans ((own_b0 (own_dlt _ _)).mpr q)))
      have hk8 := own_k8 hlo hV64
      obtain ⟨kk, hkk⟩ : ∃ kk, n - 1 - i = kk := ⟨_, rfl⟩
      rw [hkk] at hb hlo hk8
      have hVk : V < 256 ^ (kk + 1) := by rw [show kk + 1 = n - i by omega]; exact hVi
      subst hb
      obtain rfl | rfl | rfl | rfl | rfl | rfl | rfl | rfl : kk = 0 ∨ kk = 1 ∨ kk = 2 ∨ kk = 3 ∨ kk = 4 ∨ kk = 5 ∨ kk = 6 ∨ kk = 7 := by omega
      · skip
        show Go C _ _ _ _ (T3.setTop (mkF C.m 62 #[.val (.int (own_b (own_d V 0))), .val (.ref ab), .val (.int z), .val (.int zn), .val (.int en), .unset, .unset, .unset] [(.int en)]))
        refine Jvm.OwnW.iloadN O3 dS_62 rfl (q := 63) rfl ?_
        refine Jvm.OwnW.isub O3 dS_63 rfl (q := 64) rfl ?_
        rw [show (en - z) = (0 : Int32) from eq32 ((own_df henv hz (c := 0) (by omega) (by omega)).trans rfl)]
        refine Jvm.OwnW.iconst O3 dS_64 (r := (2 : Int32)) rfl (q := 65) rfl ?_
        refine Jvm.OwnW.ishr O3 dS_65 (r := (0 : Int32)) (by decide) (q := 66) rfl ?_
        refine Jvm.OwnW.iconst O3 dS_66 (r := (1 : Int32)) rfl (q := 67) rfl ?_
        refine Jvm.OwnW.iadd O3 dS_67 (r := (1 : Int32)) (by decide) (q := 68) rfl ?_
        refine Jvm.OwnW.newA' O3 dS_68 (ty := .int) rfl (hw _ (List.mem_of_getElem? (i := 88) rfl)) (N := 1) rfl (cap := 1) (by decide) (by decide) (c2 := 1) (s2 := 1) rfl rfl (by decide) (by decide) (q := 70) rfl ?_
        intro nb4 T4 h4 g4 N4 O4 X4 V_nb4
        have ne_ab_nb4 : ab ≠ nb4 := Nat.ne_of_lt (Nat.lt_of_lt_of_le V_ab.lt (Nat.le_of_eq g4.symm))
        have ne_zo_nb4 : zo ≠ nb4 := Nat.ne_of_lt (Nat.lt_of_lt_of_le F_mag_zo.lt (Nat.le_of_eq g4.symm))
        have ne_zm_nb4 : zm ≠ nb4 := Nat.ne_of_lt (Nat.lt_of_lt_of_le V_zm.lt (Nat.le_of_eq g4.symm))
        have V_ab := V_ab.ext X4
        have S_Z := S_Z.ext X4
        have F_mag_zo := F_mag_zo.ext X4
        have V_zm := V_zm.ext X4
        have V_nb4 : Ar Z h4 nb4 .int 1 (lf [(.int (0 : Int32))]) := V_nb4.congr (lf_rep 1 _)
        refine Jvm.OwnW.astore O4 dS_70 rfl (L' := #[.val (.int (own_b (own_d V 0))), .val (.ref ab), .val (.int z), .val (.int zn), .val (.int en), .val (.ref nb4), .unset, .unset]) rfl (q := 72) rfl ?_
        refine Jvm.OwnW.iloadN O4 dS_72 rfl (q := 73) rfl ?_
        refine Jvm.OwnW.sipush O4 dS_73 (r := (255 : Int32)) rfl (q := 76) rfl ?_
        refine Jvm.OwnW.iand O4 dS_76 rfl (q := 77) rfl ?_
        refine Jvm.OwnW.istore O4 dS_77 (L' := #[.val (.int (own_b (own_d V 0))), .val (.ref ab), .val (.int z), .val (.int zn), .val (.int en), .val (.ref nb4), .val (.int ((own_b (own_d V 0)) &&& (255 : Int32))), .unset]) rfl (q := 79) rfl ?_
        refine Jvm.OwnW.iload O4 dS_79 rfl (q := 81) rfl ?_
        refine Jvm.OwnW.iloadN O4 dS_81 rfl (q := 82) rfl ?_
        refine Jvm.OwnW.isub O4 dS_82 rfl (q := 83) rfl ?_
        rw [show (en - z) = (0 : Int32) from eq32 ((own_df henv hz (c := 0) (by omega) (by omega)).trans rfl)]
        refine Jvm.OwnW.iconst O4 dS_83 (r := (3 : Int32)) rfl (q := 84) rfl ?_
        refine Jvm.OwnW.iand O4 dS_84 (r := (0 : Int32)) (by decide) (q := 85) rfl ?_
        refine Jvm.OwnW.ifYes O4 dS_85 (teq0 (show (0 : Int32) = (0 : Int32) from (by decide))).1 (by decide) (q := 109) rfl ?_
        refine Jvm.OwnW.aload O4 dS_109 rfl rfl (q := 111) rfl ?_
        refine Jvm.OwnW.iconst O4 dS_111 (r := (0 : Int32)) rfl (q := 112) rfl ?_
        refine Jvm.OwnW.iload O4 dS_112 rfl (q := 114) rfl ?_
        rw [show ((own_b (own_d V 0)) &&& (255 : Int32)) = own_i V from own_iU (own_h0 V 0) (by simp only [own_d, Nat.reducePow, Nat.div_one]; omega)]
        refine Jvm.OwnW.iasA O4 dS_114 V_nb4 (i := 0) rfl (by decide) (Or.inr N4) (q := 115) rfl ?_
        intro T5 h5 O5 W5
        have V_nb4 : Ar Z h5 nb4 .int 1 (lf [(.int (own_i V))]) := V_nb4.setL W5 (by decide) (Nat.le_of_ble_eq_true rfl)
        have V_ab := V_ab.other W5 ne_ab_nb4
        have S_Z := S_Z.wr W5
        have F_mag_zo := F_mag_zo.other W5 (Or.inl ne_zo_nb4)
        have V_zm := V_zm.other W5 ne_zm_nb4
        refine Jvm.OwnW.iconst O5 dS_115 (r := (1 : Int32)) rfl (q := 116) rfl ?_
        refine Jvm.OwnW.istore O5 dS_116 (L' := #[.val (.int (own_b (own_d V 0))), .val (.ref ab), .val (.int z), .val (.int zn), .val (.int en), .val (.ref nb4), .val (.int (own_i V)), .val (.int (1 : Int32))]) rfl (q := 118) rfl ?_
        refine Jvm.OwnW.iloadN O5 dS_118 rfl (q := 119) rfl ?_
        refine Jvm.OwnW.iload O5 dS_119 rfl (q := 121) rfl ?_
        refine Jvm.OwnW.icmpYes O5 dS_121 (flt (show ¬ (z < en) from nlt32 (by rw [henv, hz]; omega))).2.1 (by decide) (q := 183) rfl ?_
        refine Jvm.OwnW.aload O5 dS_183 rfl rfl (q := 185) rfl ?_
        exact Jvm.OwnW.retA O5 dS_185 rfl rfl (by first | rfl | (cases ((.ref nb4)) <;> rfl)) (by decide) (by decide) ⟨_, rfl, Or.inr (hs0 ▸ N4), Or.inr (Or.inl ⟨by omega, by omega, V_nb4⟩)⟩
      · skip
        show Go C _ _ _ _ (T3.setTop (mkF C.m 62 #[.val (.int (own_b (own_d V 1))), .val (.ref ab), .val (.int z), .val (.int zn), .val (.int en), .unset, .unset, .unset] [(.int en)]))
        refine Jvm.OwnW.iloadN O3 dS_62 rfl (q := 63) rfl ?_
        refine Jvm.OwnW.isub O3 dS_63 rfl (q := 64) rfl ?_
        rw [show (en - z) = (1 : Int32) from eq32 ((own_df henv hz (c := 1) (by omega) (by omega)).trans rfl)]
        refine Jvm.OwnW.iconst O3 dS_64 (r := (2 : Int32)) rfl (q := 65) rfl ?_
        refine Jvm.OwnW.ishr O3 dS_65 (r := (0 : Int32)) (by decide) (q := 66) rfl ?_
        refine Jvm.OwnW.iconst O3 dS_66 (r := (1 : Int32)) rfl (q := 67) rfl ?_
        refine Jvm.OwnW.iadd O3 dS_67 (r := (1 : Int32)) (by decide) (q := 68) rfl ?_
        refine Jvm.OwnW.newA' O3 dS_68 (ty := .int) rfl (hw _ (List.mem_of_getElem? (i := 88) rfl)) (N := 1) rfl (cap := 1) (by decide) (by decide) (c2 := 1) (s2 := 1) rfl rfl (by decide) (by decide) (q := 70) rfl ?_
        intro nb6 T6 h6 g6 N6 O6 X6 V_nb6
        have ne_ab_nb6 : ab ≠ nb6 := Nat.ne_of_lt (Nat.lt_of_lt_of_le V_ab.lt (Nat.le_of_eq g6.symm))
        have ne_zo_nb6 : zo ≠ nb6 := Nat.ne_of_lt (Nat.lt_of_lt_of_le F_mag_zo.lt (Nat.le_of_eq g6.symm))
        have ne_zm_nb6 : zm ≠ nb6 := Nat.ne_of_lt (Nat.lt_of_lt_of_le V_zm.lt (Nat.le_of_eq g6.symm))
        have V_ab := V_ab.ext X6
        have S_Z := S_Z.ext X6
        have F_mag_zo := F_mag_zo.ext X6
        have V_zm := V_zm.ext X6
        have V_nb6 : Ar Z h6 nb6 .int 1 (lf [(.int (0 : Int32))]) := V_nb6.congr (lf_rep 1 _)
        refine Jvm.OwnW.astore O6 dS_70 rfl (L' := #[.val (.int (own_b (own_d V 1))), .val (.ref ab), .val (.int z), .val (.int zn), .val (.int en), .val (.ref nb6), .unset, .unset]) rfl (q := 72) rfl ?_
        refine Jvm.OwnW.iloadN O6 dS_72 rfl (q := 73) rfl ?_
        refine Jvm.OwnW.sipush O6 dS_73 (r := (255 : Int32)) rfl (q := 76) rfl ?_
        refine Jvm.OwnW.iand O6 dS_76 rfl (q := 77) rfl ?_
        refine Jvm.OwnW.istore O6 dS_77 (L' := #[.val (.int (own_b (own_d V 1))), .val (.ref ab), .val (.int z), .val (.int zn), .val (.int en), .val (.ref nb6), .val (.int ((own_b (own_d V 1)) &&& (255 : Int32))), .unset]) rfl (q := 79) rfl ?_
        refine Jvm.OwnW.iload O6 dS_79 rfl (q := 81) rfl ?_
        refine Jvm.OwnW.iloadN O6 dS_81 rfl (q := 82) rfl ?_
        refine Jvm.OwnW.isub O6 dS_82 rfl (q := 83) rfl ?_
        rw [show (en - z) = (1 : Int32) from eq32 ((own_df henv hz (c := 1) (by omega) (by omega)).trans rfl)]
        refine Jvm.OwnW.iconst O6 dS_83 (r := (3 : Int32)) rfl (q := 84) rfl ?_
        refine Jvm.OwnW.iand O6 dS_84 (r := (1 : Int32)) (by decide) (q := 85) rfl ?_
        refine Jvm.OwnW.ifNo O6 dS_85 (feq0 (show ¬ ((1 : Int32) = (0 : Int32)) from (by decide))).1 (q := 88) rfl ?_
        refine Jvm.OwnW.iload O6 dS_88 rfl (q := 90) rfl ?_
        refine Jvm.OwnW.bipush O6 dS_90 (r := (8 : Int32)) rfl (q := 92) rfl ?_
        refine Jvm.OwnW.ishl O6 dS_92 rfl (q := 93) rfl ?_
        refine Jvm.OwnW.aloadN O6 dS_93 rfl rfl (q := 94) rfl ?_
        refine Jvm.OwnW.iloadN O6 dS_94 rfl (q := 95) rfl ?_
        refine Jvm.OwnW.iinc O6 dS_95 rfl (L' := #[.val (.int (own_b (own_d V 1))), .val (.ref ab), .val (.int (z + (1 : Int32))), .val (.int zn), .val (.int en), .val (.ref nb6), .val (.int ((own_b (own_d V 1)) &&& (255 : Int32))), .unset]) rfl (q := 98) rfl ?_
        refine Jvm.OwnW.balA O6 dS_98 V_ab (i := (i + 1)) hz (by omega) (v := (.int (own_b (own_d V 0)))) (own_fe (by omega)) (q := 99) rfl ?_
        refine Jvm.OwnW.sipush O6 dS_99 (r := (255 : Int32)) rfl (q := 102) rfl ?_
        refine Jvm.OwnW.iand O6 dS_102 rfl (q := 103) rfl ?_
        refine Jvm.OwnW.ior O6 dS_103 rfl (q := 104) rfl ?_
        refine Jvm.OwnW.istore O6 dS_104 (L' := #[.val (.int (own_b (own_d V 1))), .val (.ref ab), .val (.int (z + (1 : Int32))), .val (.int zn), .val (.int en), .val (.ref nb6), .val (.int ((((own_b (own_d V 1)) &&& (255 : Int32)) <<< ((8 : Int32) &&& 31)) ||| ((own_b (own_d V 0)) &&& (255 : Int32)))), .unset]) rfl (q := 106) rfl ?_
        refine Jvm.OwnW.goto O6 dS_106 (by decide) (q := 79) rfl ?_
        refine Jvm.OwnW.iload O6 dS_79 rfl (q := 81) rfl ?_
        refine Jvm.OwnW.iloadN O6 dS_81 rfl (q := 82) rfl ?_
        refine Jvm.OwnW.isub O6 dS_82 rfl (q := 83) rfl ?_
        rw [show (en - (z + (1 : Int32))) = (0 : Int32) from eq32 ((own_df henv (own_za hz (by omega)) (c := 0) (by omega) (by omega)).trans rfl)]
        refine Jvm.OwnW.iconst O6 dS_83 (r := (3 : Int32)) rfl (q := 84) rfl ?_
        refine Jvm.OwnW.iand O6 dS_84 (r := (0 : Int32)) (by decide) (q := 85) rfl ?_
        refine Jvm.OwnW.ifYes O6 dS_85 (teq0 (show (0 : Int32) = (0 : Int32) from (by decide))).1 (by decide) (q := 109) rfl ?_
        refine Jvm.OwnW.aload O6 dS_109 rfl rfl (q := 111) rfl ?_
        refine Jvm.OwnW.iconst O6 dS_111 (r := (0 : Int32)) rfl (q := 112) rfl ?_
        refine Jvm.OwnW.iload O6 dS_112 rfl (q := 114) rfl ?_
        rw [show ((((own_b (own_d V 1)) &&& (255 : Int32)) <<< ((8 : Int32) &&& 31)) ||| ((own_b (own_d V 0)) &&& (255 : Int32))) = own_i V from own_iU (own_h1 (own_h0 V 1) V 0) (by simp only [own_d, Nat.reducePow, Nat.div_one]; omega)]
        refine Jvm.OwnW.iasA O6 dS_114 V_nb6 (i := 0) rfl (by decide) (Or.inr N6) (q := 115) rfl ?_
        intro T7 h7 O7 W7
        have V_nb6 : Ar Z h7 nb6 .int 1 (lf [(.int (own_i V))]) := V_nb6.setL W7 (by decide) (Nat.le_of_ble_eq_true rfl)
        have V_ab := V_ab.other W7 ne_ab_nb6
        have S_Z := S_Z.wr W7
        have F_mag_zo := F_mag_zo.other W7 (Or.inl ne_zo_nb6)
        have V_zm := V_zm.other W7 ne_zm_nb6
        refine Jvm.OwnW.iconst O7 dS_115 (r := (1 : Int32)) rfl (q := 116) rfl ?_
        refine Jvm.OwnW.istore O7 dS_116 (L' := #[.val (.int (own_b (own_d V 1))), .val (.ref ab), .val (.int (z + (1 : Int32))), .val (.int zn), .val (.int en), .val (.ref nb6), .val (.int (own_i V)), .val (.int (1 : Int32))]) rfl (q := 118) rfl ?_
        refine Jvm.OwnW.iloadN O7 dS_118 rfl (q := 119) rfl ?_
        refine Jvm.OwnW.iload O7 dS_119 rfl (q := 121) rfl ?_
        refine Jvm.OwnW.icmpYes O7 dS_121 (flt (show ¬ ((z + (1 : Int32)) < en) from nlt32 (by rw [henv, (own_za hz (by omega))]; omega))).2.1 (by decide) (q := 183) rfl ?_
        refine Jvm.OwnW.aload O7 dS_183 rfl rfl (q := 185) rfl ?_
        exact Jvm.OwnW.retA O7 dS_185 rfl rfl (by first | rfl | (cases ((.ref nb6)) <;> rfl)) (by decide) (by decide) ⟨_, rfl, Or.inr (hs0 ▸ N6), Or.inr (Or.inl ⟨by omega, by omega, V_nb6⟩)⟩
      · skip
        show Go C _ _ _ _ (T3.setTop (mkF C.m 62 #[.val (.int (own_b (own_d V 2))), .val (.ref ab), .val (.int z), .val (.int zn), .val (.int en), .unset, .unset, .unset] [(.int en)]))
        refine Jvm.OwnW.iloadN O3 dS_62 rfl (q := 63) rfl ?_
        refine Jvm.OwnW.isub O3 dS_63 rfl (q := 64) rfl ?_
        rw [show (en - z) = (2 : Int32) from eq32 ((own_df henv hz (c := 2) (by omega) (by omega)).trans rfl)]
        refine Jvm.OwnW.iconst O3 dS_64 (r := (2 : Int32)) rfl (q := 65) rfl ?_
        refine Jvm.OwnW.ishr O3 dS_65 (r := (0 : Int32)) (by decide) (q := 66) rfl ?_
        refine Jvm.OwnW.iconst O3 dS_66 (r := (1 : Int32)) rfl (q := 67) rfl ?_
        refine Jvm.OwnW.iadd O3 dS_67 (r := (1 : Int32)) (by decide) (q := 68) rfl ?_
        refine Jvm.OwnW.newA' O3 dS_68 (ty := .int) rfl (hw _ (List.mem_of_getElem? (i := 88) rfl)) (N := 1) rfl (cap := 1) (by decide) (by decide) (c2 := 1) (s2 := 1) rfl rfl (by decide) (by decide) (q := 70) rfl ?_
        intro nb8 T8 h8 g8 N8 O8 X8 V_nb8
        have ne_ab_nb8 : ab ≠ nb8 := Nat.ne_of_lt (Nat.lt_of_lt_of_le V_ab.lt (Nat.le_of_eq g8.symm))
        have ne_zo_nb8 : zo ≠ nb8 := Nat.ne_of_lt (Nat.lt_of_lt_of_le F_mag_zo.lt (Nat.le_of_eq g8.symm))
        have ne_zm_nb8 : zm ≠ nb8 := Nat.ne_of_lt (Nat.lt_of_lt_of_le V_zm.lt (Nat.le_of_eq g8.symm))
        have V_ab := V_ab.ext X8
        have S_Z := S_Z.ext X8
        have F_mag_zo := F_mag_zo.ext X8
        have V_zm := V_zm.ext X8
        have V_nb8 : Ar Z h8 nb8 .int 1 (lf [(.int (0 : Int32))]) := V_nb8.congr (lf_rep 1 _)
        refine Jvm.OwnW.astore O8 dS_70 rfl (L' := #[.val (.int (own_b (own_d V 2))), .val (.ref ab), .val (.int z), .val (.int zn), .val (.int en), .val (.ref nb8), .unset, .unset]) rfl (q := 72) rfl ?_
        refine Jvm.OwnW.iloadN O8 dS_72 rfl (q := 73) rfl ?_
        refine Jvm.OwnW.sipush O8 dS_73 (r := (255 : Int32)) rfl (q := 76) rfl ?_
        refine Jvm.OwnW.iand O8 dS_76 rfl (q := 77) rfl ?_
        refine Jvm.OwnW.istore O8 dS_77 (L' := #[.val (.int (own_b (own_d V 2))), .val (.ref ab), .val (.int z), .val (.int zn), .val (.int en), .val (.ref nb8), .val (.int ((own_b (own_d V 2)) &&& (255 : Int32))), .unset]) rfl (q := 79) rfl ?_
        refine Jvm.OwnW.iload O8 dS_79 rfl (q := 81) rfl ?_
        refine Jvm.OwnW.iloadN O8 dS_81 rfl (q := 82) rfl ?_
        refine Jvm.OwnW.isub O8 dS_82 rfl (q := 83) rfl ?_
        rw [show (en - z) = (2 : Int32) from eq32 ((own_df henv hz (c := 2) (by omega) (by omega)).trans rfl)]
        refine Jvm.OwnW.iconst O8 dS_83 (r := (3 : Int32)) rfl (q := 84) rfl ?_
        refine Jvm.OwnW.iand O8 dS_84 (r := (2 : Int32)) (by decide) (q := 85) rfl ?_
        refine Jvm.OwnW.ifNo O8 dS_85 (feq0 (show ¬ ((2 : Int32) = (0 : Int32)) from (by decide))).1 (q := 88) rfl ?_
        refine Jvm.OwnW.iload O8 dS_88 rfl (q := 90) rfl ?_
        refine Jvm.OwnW.bipush O8 dS_90 (r := (8 : Int32)) rfl (q := 92) rfl ?_
        refine Jvm.OwnW.ishl O8 dS_92 rfl (q := 93) rfl ?_
        refine Jvm.OwnW.aloadN O8 dS_93 rfl rfl (q := 94) rfl ?_
        refine Jvm.OwnW.iloadN O8 dS_94 rfl (q := 95) rfl ?_
        refine Jvm.OwnW.iinc O8 dS_95 rfl (L' := #[.val (.int (own_b (own_d V 2))), .val (.ref ab), .val (.int (z + (1 : Int32))), .val (.int zn), .val (.int en), .val (.ref nb8), .val (.int ((own_b (own_d V 2)) &&& (255 : Int32))), .unset]) rfl (q := 98) rfl ?_
        refine Jvm.OwnW.balA O8 dS_98 V_ab (i := (i + 1)) hz (by omega) (v := (.int (own_b (own_d V 1)))) (own_fe (by omega)) (q := 99) rfl ?_
        refine Jvm.OwnW.sipush O8 dS_99 (r := (255 : Int32)) rfl (q := 102) rfl ?_
        refine Jvm.OwnW.iand O8 dS_102 rfl (q := 103) rfl ?_
        refine Jvm.OwnW.ior O8 dS_103 rfl (q := 104) rfl ?_
        refine Jvm.OwnW.istore O8 dS_104 (L' := #[.val (.int (own_b (own_d V 2))), .val (.ref ab), .val (.int (z + (1 : Int32))), .val (.int zn), .val (.int en), .val (.ref nb8), .val (.int ((((own_b (own_d V 2)) &&& (255 : Int32)) <<< ((8 : Int32) &&& 31)) ||| ((own_b (own_d V 1)) &&& (255 : Int32)))), .unset]) rfl (q := 106) rfl ?_
        refine Jvm.OwnW.goto O8 dS_106 (by decide) (q := 79) rfl ?_
        refine Jvm.OwnW.iload O8 dS_79 rfl (q := 81) rfl ?_
        refine Jvm.OwnW.iloadN O8 dS_81 rfl (q := 82) rfl ?_
        refine Jvm.OwnW.isub O8 dS_82 rfl (q := 83) rfl ?_
        rw [show (en - (z + (1 : Int32))) = (1 : Int32) from eq32 ((own_df henv (own_za hz (by omega)) (c := 1) (by omega) (by omega)).trans rfl)]
        refine Jvm.OwnW.iconst O8 dS_83 (r := (3 : Int32)) rfl (q := 84) rfl ?_
        refine Jvm.OwnW.iand O8 dS_84 (r := (1 : Int32)) (by decide) (q := 85) rfl ?_
        refine Jvm.OwnW.ifNo O8 dS_85 (feq0 (show ¬ ((1 : Int32) = (0 : Int32)) from (by decide))).1 (q := 88) rfl ?_
        refine Jvm.OwnW.iload O8 dS_88 rfl (q := 90) rfl ?_
        refine Jvm.OwnW.bipush O8 dS_90 (r := (8 : Int32)) rfl (q := 92) rfl ?_
        refine Jvm.OwnW.ishl O8 dS_92 rfl (q := 93) rfl ?_
        refine Jvm.OwnW.aloadN O8 dS_93 rfl rfl (q := 94) rfl ?_
        refine Jvm.OwnW.iloadN O8 dS_94 rfl (q := 95) rfl ?_
        refine Jvm.OwnW.iinc O8 dS_95 rfl (L' := #[.val (.int (own_b (own_d V 2))), .val (.ref ab), .val (.int ((z + (1 : Int32)) + (1 : Int32))), .val (.int zn), .val (.int en), .val (.ref nb8), .val (.int ((((own_b (own_d V 2)) &&& (255 : Int32)) <<< ((8 : Int32) &&& 31)) ||| ((own_b (own_d V 1)) &&& (255 : Int32)))), .unset]) rfl (q := 98) rfl ?_
        refine Jvm.OwnW.balA O8 dS_98 V_ab (i := (i + 1 + 1)) (own_za hz (by omega)) (by omega) (v := (.int (own_b (own_d V 0)))) (own_fe (by omega)) (q := 99) rfl ?_
        refine Jvm.OwnW.sipush O8 dS_99 (r := (255 : Int32)) rfl (q := 102) rfl ?_
        refine Jvm.OwnW.iand O8 dS_102 rfl (q := 103) rfl ?_
        refine Jvm.OwnW.ior O8 dS_103 rfl (q := 104) rfl ?_
        refine Jvm.OwnW.istore O8 dS_104 (L' := #[.val (.int (own_b (own_d V 2))), .val (.ref ab), .val (.int ((z + (1 : Int32)) + (1 : Int32))), .val (.int zn), .val (.int en), .val (.ref nb8), .val (.int ((((((own_b (own_d V 2)) &&& (255 : Int32)) <<< ((8 : Int32) &&& 31)) ||| ((own_b (own_d V 1)) &&& (255 : Int32))) <<< ((8 : Int32) &&& 31)) ||| ((own_b (own_d V 0)) &&& (255 : Int32)))), .unset]) rfl (q := 106) rfl ?_
        refine Jvm.OwnW.goto O8 dS_106 (by decide) (q := 79) rfl ?_
        refine Jvm.OwnW.iload O8 dS_79 rfl (q := 81) rfl ?_
        refine Jvm.OwnW.iloadN O8 dS_81 rfl (q := 82) rfl ?_
        refine Jvm.OwnW.isub O8 dS_82 rfl (q := 83) rfl ?_
        rw [show (en - ((z + (1 : Int32)) + (1 : Int32))) = (0 : Int32) from eq32 ((own_df henv (own_za (own_za hz (by omega)) (by omega)) (c := 0) (by omega) (by omega)).trans rfl)]
        refine Jvm.OwnW.iconst O8 dS_83 (r := (3 : Int32)) rfl (q := 84) rfl ?_
        refine Jvm.OwnW.iand O8 dS_84 (r := (0 : Int32)) (by decide) (q := 85) rfl ?_
        refine Jvm.OwnW.ifYes O8 dS_85 (teq0 (show (0 : Int32) = (0 : Int32) from (by decide))).1 (by decide) (q := 109) rfl ?_
        refine Jvm.OwnW.aload O8 dS_109 rfl rfl (q := 111) rfl ?_
        refine Jvm.OwnW.iconst O8 dS_111 (r := (0 : Int32)) rfl (q := 112) rfl ?_
        refine Jvm.OwnW.iload O8 dS_112 rfl (q := 114) rfl ?_
        rw [show ((((((own_b (own_d V 2)) &&& (255 : Int32)) <<< ((8 : Int32) &&& 31)) ||| ((own_b (own_d V 1)) &&& (255 : Int32))) <<< ((8 : Int32) &&& 31)) ||| ((own_b (own_d V 0)) &&& (255 : Int32))) = own_i V from own_iU (own_h1 (own_h1 (own_h0 V 2) V 1) V 0) (by simp only [own_d, Nat.reducePow, Nat.div_one]; omega)]
        refine Jvm.OwnW.iasA O8 dS_114 V_nb8 (i := 0) rfl (by decide) (Or.inr N8) (q := 115) rfl ?_
        intro T9 h9 O9 W9
        have V_nb8 : Ar Z h9 nb8 .int 1 (lf [(.int (own_i V))]) := V_nb8.setL W9 (by decide) (Nat.le_of_ble_eq_true rfl)
        have V_ab := V_ab.other W9 ne_ab_nb8
        have S_Z := S_Z.wr W9
        have F_mag_zo := F_mag_zo.other W9 (Or.inl ne_zo_nb8)
        have V_zm := V_zm.other W9 ne_zm_nb8
        refine Jvm.OwnW.iconst O9 dS_115 (r := (1 : Int32)) rfl (q := 116) rfl ?_
        refine Jvm.OwnW.istore O9 dS_116 (L' := #[.val (.int (own_b (own_d V 2))), .val (.ref ab), .val (.int ((z + (1 : Int32)) + (1 : Int32))), .val (.int zn), .val (.int en), .val (.ref nb8), .val (.int (own_i V)), .val (.int (1 : Int32))]) rfl (q := 118) rfl ?_
        refine Jvm.OwnW.iloadN O9 dS_118 rfl (q := 119) rfl ?_
        refine Jvm.OwnW.iload O9 dS_119 rfl (q := 121) rfl ?_
        refine Jvm.OwnW.icmpYes O9 dS_121 (flt (show ¬ (((z + (1 : Int32)) + (1 : Int32)) < en) from nlt32 (by rw [henv, (own_za (own_za hz (by omega)) (by omega))]; omega))).2.1 (by decide) (q := 183) rfl ?_
        refine Jvm.OwnW.aload O9 dS_183 rfl rfl (q := 185) rfl ?_
        exact Jvm.OwnW.retA O9 dS_185 rfl rfl (by first | rfl | (cases ((.ref nb8)) <;> rfl)) (by decide) (by decide) ⟨_, rfl, Or.inr (hs0 ▸ N8), Or.inr (Or.inl ⟨by omega, by omega, V_nb8⟩)⟩
      · skip
        show Go C _ _ _ _ (T3.setTop (mkF C.m 62 #[.val (.int (own_b (own_d V 3))), .val (.ref ab), .val (.int z), .val (.int zn), .val (.int en), .unset, .unset, .unset] [(.int en)]))
        refine Jvm.OwnW.iloadN O3 dS_62 rfl (q := 63) rfl ?_
        refine Jvm.OwnW.isub O3 dS_63 rfl (q := 64) rfl ?_
        rw [show (en - z) = (3 : Int32) from eq32 ((own_df henv hz (c := 3) (by omega) (by omega)).trans rfl)]
        refine Jvm.OwnW.iconst O3 dS_64 (r := (2 : Int32)) rfl (q := 65) rfl ?_
        refine Jvm.OwnW.ishr O3 dS_65 (r := (0 : Int32)) (by decide) (q := 66) rfl ?_
        refine Jvm.OwnW.iconst O3 dS_66 (r := (1 : Int32)) rfl (q := 67) rfl ?_
        refine Jvm.OwnW.iadd O3 dS_67 (r := (1 : Int32)) (by decide) (q := 68) rfl ?_
        refine Jvm.OwnW.newA' O3 dS_68 (ty := .int) rfl (hw _ (List.mem_of_getElem? (i := 88) rfl)) (N := 1) rfl (cap := 1) (by decide) (by decide) (c2 := 1) (s2 := 1) rfl rfl (by decide) (by decide) (q := 70) rfl ?_
        intro nb10 T10 h10 g10 N10 O10 X10 V_nb10
        have ne_ab_nb10 : ab ≠ nb10 := Nat.ne_of_lt (Nat.lt_of_lt_of_le V_ab.lt (Nat.le_of_eq g10.symm))
        have ne_zo_nb10 : zo ≠ nb10 := Nat.ne_of_lt (Nat.lt_of_lt_of_le F_mag_zo.lt (Nat.le_of_eq g10.symm))
        have ne_zm_nb10 : zm ≠ nb10 := Nat.ne_of_lt (Nat.lt_of_lt_of_le V_zm.lt (Nat.le_of_eq g10.symm))
        have V_ab := V_ab.ext X10
        have S_Z := S_Z.ext X10
        have F_mag_zo := F_mag_zo.ext X10
        have V_zm := V_zm.ext X10
        have V_nb10 : Ar Z h10 nb10 .int 1 (lf [(.int (0 : Int32))]) := V_nb10.congr (lf_rep 1 _)
        refine Jvm.OwnW.astore O10 dS_70 rfl (L' := #[.val (.int (own_b (own_d V 3))), .val (.ref ab), .val (.int z), .val (.int zn), .val (.int en), .val (.ref nb10), .unset, .unset]) rfl (q := 72) rfl ?_
        refine Jvm.OwnW.iloadN O10 dS_72 rfl (q := 73) rfl ?_
        refine Jvm.OwnW.sipush O10 dS_73 (r := (255 : Int32)) rfl (q := 76) rfl ?_
        refine Jvm.OwnW.iand O10 dS_76 rfl (q := 77) rfl ?_
        refine Jvm.OwnW.istore O10 dS_77 (L' := #[.val (.int (own_b (own_d V 3))), .val (.ref ab), .val (.int z), .val (.int zn), .val (.int en), .val (.ref nb10), .val (.int ((own_b (own_d V 3)) &&& (255 : Int32))), .unset]) rfl (q := 79) rfl ?_
        refine Jvm.OwnW.iload O10 dS_79 rfl (q := 81) rfl ?_
        refine Jvm.OwnW.iloadN O10 dS_81 rfl (q := 82) rfl ?_
        refine Jvm.OwnW.isub O10 dS_82 rfl (q := 83) rfl ?_
        rw [show (en - z) = (3 : Int32) from eq32 ((own_df henv hz (c := 3) (by omega) (by omega)).trans rfl)]
        refine Jvm.OwnW.iconst O10 dS_83 (r := (3 : Int32)) rfl (q := 84) rfl ?_
        refine Jvm.OwnW.iand O10 dS_84 (r := (3 : Int32)) (by decide) (q := 85) rfl ?_
        refine Jvm.OwnW.ifNo O10 dS_85 (feq0 (show ¬ ((3 : Int32) = (0 : Int32)) from (by decide))).1 (q := 88) rfl ?_
        refine Jvm.OwnW.iload O10 dS_88 rfl (q := 90) rfl ?_
        refine Jvm.OwnW.bipush O10 dS_90 (r := (8 : Int32)) rfl (q := 92) rfl ?_
        refine Jvm.OwnW.ishl O10 dS_92 rfl (q := 93) rfl ?_
        refine Jvm.OwnW.aloadN O10 dS_93 rfl rfl (q := 94) rfl ?_
        refine Jvm.OwnW.iloadN O10 dS_94 rfl (q := 95) rfl ?_
        refine Jvm.OwnW.iinc O10 dS_95 rfl (L' := #[.val (.int (own_b (own_d V 3))), .val (.ref ab), .val (.int (z + (1 : Int32))), .val (.int zn), .val (.int en), .val (.ref nb10), .val (.int ((own_b (own_d V 3)) &&& (255 : Int32))), .unset]) rfl (q := 98) rfl ?_
        refine Jvm.OwnW.balA O10 dS_98 V_ab (i := (i + 1)) hz (by omega) (v := (.int (own_b (own_d V 2)))) (own_fe (by omega)) (q := 99) rfl ?_
        refine Jvm.OwnW.sipush O10 dS_99 (r := (255 : Int32)) rfl (q := 102) rfl ?_
        refine Jvm.OwnW.iand O10 dS_102 rfl (q := 103) rfl ?_
        refine Jvm.OwnW.ior O10 dS_103 rfl (q := 104) rfl ?_
        refine Jvm.OwnW.istore O10 dS_104 (L' := #[.val (.int (own_b (own_d V 3))), .val (.ref ab), .val (.int (z + (1 : Int32))), .val (.int zn), .val (.int en), .val (.ref nb10), .val (.int ((((own_b (own_d V 3)) &&& (255 : Int32)) <<< ((8 : Int32) &&& 31)) ||| ((own_b (own_d V 2)) &&& (255 : Int32)))), .unset]) rfl (q := 106) rfl ?_
        refine Jvm.OwnW.goto O10 dS_106 (by decide) (q := 79) rfl ?_
        refine Jvm.OwnW.iload O10 dS_79 rfl (q := 81) rfl ?_
        refine Jvm.OwnW.iloadN O10 dS_81 rfl (q := 82) rfl ?_
        refine Jvm.OwnW.isub O10 dS_82 rfl (q := 83) rfl ?_
        rw [show (en - (z + (1 : Int32))) = (2 : Int32) from eq32 ((own_df henv (own_za hz (by omega)) (c := 2) (by omega) (by omega)).trans rfl)]
        refine Jvm.OwnW.iconst O10 dS_83 (r := (3 : Int32)) rfl (q := 84) rfl ?_
        refine Jvm.OwnW.iand O10 dS_84 (r := (2 : Int32)) (by decide) (q := 85) rfl ?_
        refine Jvm.OwnW.ifNo O10 dS_85 (feq0 (show ¬ ((2 : Int32) = (0 : Int32)) from (by decide))).1 (q := 88) rfl ?_
        refine Jvm.OwnW.iload O10 dS_88 rfl (q := 90) rfl ?_
        refine Jvm.OwnW.bipush O10 dS_90 (r := (8 : Int32)) rfl (q := 92) rfl ?_
        refine Jvm.OwnW.ishl O10 dS_92 rfl (q := 93) rfl ?_
        refine Jvm.OwnW.aloadN O10 dS_93 rfl rfl (q := 94) rfl ?_
        refine Jvm.OwnW.iloadN O10 dS_94 rfl (q := 95) rfl ?_
        refine Jvm.OwnW.iinc O10 dS_95 rfl (L' := #[.val (.int (own_b (own_d V 3))), .val (.ref ab), .val (.int ((z + (1 : Int32)) + (1 : Int32))), .val (.int zn), .val (.int en), .val (.ref nb10), .val (.int ((((own_b (own_d V 3)) &&& (255 : Int32)) <<< ((8 : Int32) &&& 31)) ||| ((own_b (own_d V 2)) &&& (255 : Int32)))), .unset]) rfl (q := 98) rfl ?_
        refine Jvm.OwnW.balA O10 dS_98 V_ab (i := (i + 1 + 1)) (own_za hz (by omega)) (by omega) (v := (.int (own_b (own_d V 1)))) (own_fe (by omega)) (q := 99) rfl ?_
        refine Jvm.OwnW.sipush O10 dS_99 (r := (255 : Int32)) rfl (q := 102) rfl ?_
        refine Jvm.OwnW.iand O10 dS_102 rfl (q := 103) rfl ?_
        refine Jvm.OwnW.ior O10 dS_103 rfl (q := 104) rfl ?_
        refine Jvm.OwnW.istore O10 dS_104 (L' := #[.val (.int (own_b (own_d V 3))), .val (.ref ab), .val (.int ((z + (1 : Int32)) + (1 : Int32))), .val (.int zn), .val (.int en), .val (.ref nb10), .val (.int ((((((own_b (own_d V 3)) &&& (255 : Int32)) <<< ((8 : Int32) &&& 31)) ||| ((own_b (own_d V 2)) &&& (255 : Int32))) <<< ((8 : Int32) &&& 31)) ||| ((own_b (own_d V 1)) &&& (255 : Int32)))), .unset]) rfl (q := 106) rfl ?_
        refine Jvm.OwnW.goto O10 dS_106 (by decide) (q := 79) rfl ?_
        refine Jvm.OwnW.iload O10 dS_79 rfl (q := 81) rfl ?_
        refine Jvm.OwnW.iloadN O10 dS_81 rfl (q := 82) rfl ?_
        refine Jvm.OwnW.isub O10 dS_82 rfl (q := 83) rfl ?_
        rw [show (en - ((z + (1 : Int32)) + (1 : Int32))) = (1 : Int32) from eq32 ((own_df henv (own_za (own_za hz (by omega)) (by omega)) (c := 1) (by omega) (by omega)).trans rfl)]
        refine Jvm.OwnW.iconst O10 dS_83 (r := (3 : Int32)) rfl (q := 84) rfl ?_
        refine Jvm.OwnW.iand O10 dS_84 (r := (1 : Int32)) (by decide) (q := 85) rfl ?_
        refine Jvm.OwnW.ifNo O10 dS_85 (feq0 (show ¬ ((1 : Int32) = (0 : Int32)) from (by decide))).1 (q := 88) rfl ?_
        refine Jvm.OwnW.iload O10 dS_88 rfl (q := 90) rfl ?_
        refine Jvm.OwnW.bipush O10 dS_90 (r := (8 : Int32)) rfl (q := 92) rfl ?_
        refine Jvm.OwnW.ishl O10 dS_92 rfl (q := 93) rfl ?_
        refine Jvm.OwnW.aloadN O10 dS_93 rfl rfl (q := 94) rfl ?_
        refine Jvm.OwnW.iloadN O10 dS_94 rfl (q := 95) rfl ?_
        refine Jvm.OwnW.iinc O10 dS_95 rfl (L' := #[.val (.int (own_b (own_d V 3))), .val (.ref ab), .val (.int (((z + (1 : Int32)) + (1 : Int32)) + (1 : Int32))), .val (.int zn), .val (.int en), .val (.ref nb10), .val (.int ((((((own_b (own_d V 3)) &&& (255 : Int32)) <<< ((8 : Int32) &&& 31)) ||| ((own_b (own_d V 2)) &&& (255 : Int32))) <<< ((8 : Int32) &&& 31)) ||| ((own_b (own_d V 1)) &&& (255 : Int32)))), .unset]) rfl (q := 98) rfl ?_
        refine Jvm.OwnW.balA O10 dS_98 V_ab (i := (i + 1 + 1 + 1)) (own_za (own_za hz (by omega)) (by omega)) (by omega) (v := (.int (own_b (own_d V 0)))) (own_fe (by omega)) (q := 99) rfl ?_
        refine Jvm.OwnW.sipush O10 dS_99 (r := (255 : Int32)) rfl (q := 102) rfl ?_
        refine Jvm.OwnW.iand O10 dS_102 rfl (q := 103) rfl ?_
        refine Jvm.OwnW.ior O10 dS_103 rfl (q := 104) rfl ?_
        refine Jvm.OwnW.istore O10 dS_104 (L' := #[.val (.int (own_b (own_d V 3))), .val (.ref ab), .val (.int (((z + (1 : Int32)) + (1 : Int32)) + (1 : Int32))), .val (.int zn), .val (.int en), .val (.ref nb10), .val (.int ((((((((own_b (own_d V 3)) &&& (255 : Int32)) <<< ((8 : Int32) &&& 31)) ||| ((own_b (own_d V 2)) &&& (255 : Int32))) <<< ((8 : Int32) &&& 31)) ||| ((own_b (own_d V 1)) &&& (255 : Int32))) <<< ((8 : Int32) &&& 31)) ||| ((own_b (own_d V 0)) &&& (255 : Int32)))), .unset]) rfl (q := 106) rfl ?_
        refine Jvm.OwnW.goto O10 dS_106 (by decide) (q := 79) rfl ?_
        refine Jvm.OwnW.iload O10 dS_79 rfl (q := 81) rfl ?_
        refine Jvm.OwnW.iloadN O10 dS_81 rfl (q := 82) rfl ?_
        refine Jvm.OwnW.isub O10 dS_82 rfl (q := 83) rfl ?_
        rw [show (en - (((z + (1 : Int32)) + (1 : Int32)) + (1 : Int32))) = (0 : Int32) from eq32 ((own_df henv (own_za (own_za (own_za hz (by omega)) (by omega)) (by omega)) (c := 0) (by omega) (by omega)).trans rfl)]
        refine Jvm.OwnW.iconst O10 dS_83 (r := (3 : Int32)) rfl (q := 84) rfl ?_
        refine Jvm.OwnW.iand O10 dS_84 (r := (0 : Int32)) (by decide) (q := 85) rfl ?_
        refine Jvm.OwnW.ifYes O10 dS_85 (teq0 (show (0 : Int32) = (0 : Int32) from (by decide))).1 (by decide) (q := 109) rfl ?_
        refine Jvm.OwnW.aload O10 dS_109 rfl rfl (q := 111) rfl ?_
        refine Jvm.OwnW.iconst O10 dS_111 (r := (0 : Int32)) rfl (q := 112) rfl ?_
        refine Jvm.OwnW.iload O10 dS_112 rfl (q := 114) rfl ?_
        rw [show ((((((((own_b (own_d V 3)) &&& (255 : Int32)) <<< ((8 : Int32) &&& 31)) ||| ((own_b (own_d V 2)) &&& (255 : Int32))) <<< ((8 : Int32) &&& 31)) ||| ((own_b (own_d V 1)) &&& (255 : Int32))) <<< ((8 : Int32) &&& 31)) ||| ((own_b (own_d V 0)) &&& (255 : Int32))) = own_i V from own_iU (own_h1 (own_h1 (own_h1 (own_h0 V 3) V 2) V 1) V 0) (by simp only [own_d, Nat.reducePow, Nat.div_one]; omega)]
        refine Jvm.OwnW.iasA O10 dS_114 V_nb10 (i := 0) rfl (by decide) (Or.inr N10) (q := 115) rfl ?_
        intro T11 h11 O11 W11
        have V_nb10 : Ar Z h11 nb10 .int 1 (lf [(.int (own_i V))]) := V_nb10.setL W11 (by decide) (Nat.le_of_ble_eq_true rfl)
        have V_ab := V_ab.other W11 ne_ab_nb10
        have S_Z := S_Z.wr W11
        have F_mag_zo := F_mag_zo.other W11 (Or.inl ne_zo_nb10)
        have V_zm := V_zm.other W11 ne_zm_nb10
        refine Jvm.OwnW.iconst O11 dS_115 (r := (1 : Int32)) rfl (q := 116) rfl ?_
        refine Jvm.OwnW.istore O11 dS_116 (L' := #[.val (.int (own_b (own_d V 3))), .val (.ref ab), .val (.int (((z + (1 : Int32)) + (1 : Int32)) + (1 : Int32))), .val (.int zn), .val (.int en), .val (.ref nb10), .val (.int (own_i V)), .val (.int (1 : Int32))]) rfl (q := 118) rfl ?_
        refine Jvm.OwnW.iloadN O11 dS_118 rfl (q := 119) rfl ?_
        refine Jvm.OwnW.iload O11 dS_119 rfl (q := 121) rfl ?_
        refine Jvm.OwnW.icmpYes O11 dS_121 (flt (show ¬ ((((z + (1 : Int32)) + (1 : Int32)) + (1 : Int32)) < en) from nlt32 (by rw [henv, (own_za (own_za (own_za hz (by omega)) (by omega)) (by omega))]; omega))).2.1 (by decide) (q := 183) rfl ?_
        refine Jvm.OwnW.aload O11 dS_183 rfl rfl (q := 185) rfl ?_
        exact Jvm.OwnW.retA O11 dS_185 rfl rfl (by first | rfl | (cases ((.ref nb10)) <;> rfl)) (by decide) (by decide) ⟨_, rfl, Or.inr (hs0 ▸ N10), Or.inr (Or.inl ⟨by omega, by omega, V_nb10⟩)⟩
      · skip
        show Go C _ _ _ _ (T3.setTop (mkF C.m 62 #[.val (.int (own_b (own_d V 4))), .val (.ref ab), .val (.int z), .val (.int zn), .val (.int en), .unset, .unset, .unset] [(.int en)]))
        refine Jvm.OwnW.iloadN O3 dS_62 rfl (q := 63) rfl ?_
        refine Jvm.OwnW.isub O3 dS_63 rfl (q := 64) rfl ?_
        rw [show (en - z) = (4 : Int32) from eq32 ((own_df henv hz (c := 4) (by omega) (by omega)).trans rfl)]
        refine Jvm.OwnW.iconst O3 dS_64 (r := (2 : Int32)) rfl (q := 65) rfl ?_
        refine Jvm.OwnW.ishr O3 dS_65 (r := (1 : Int32)) (by decide) (q := 66) rfl ?_
        refine Jvm.OwnW.iconst O3 dS_66 (r := (1 : Int32)) rfl (q := 67) rfl ?_
        refine Jvm.OwnW.iadd O3 dS_67 (r := (2 : Int32)) (by decide) (q := 68) rfl ?_
        refine Jvm.OwnW.newA' O3 dS_68 (ty := .int) rfl (hw _ (List.mem_of_getElem? (i := 88) rfl)) (N := 2) rfl (cap := 2) (by decide) (by decide) (c2 := 1) (s2 := 2) rfl rfl (by decide) (by decide) (q := 70) rfl ?_
        intro nb12 T12 h12 g12 N12 O12 X12 V_nb12
        have ne_ab_nb12 : ab ≠ nb12 := Nat.ne_of_lt (Nat.lt_of_lt_of_le V_ab.lt (Nat.le_of_eq g12.symm))
        have ne_zo_nb12 : zo ≠ nb12 := Nat.ne_of_lt (Nat.lt_of_lt_of_le F_mag_zo.lt (Nat.le_of_eq g12.symm))
        have ne_zm_nb12 : zm ≠ nb12 := Nat.ne_of_lt (Nat.lt_of_lt_of_le V_zm.lt (Nat.le_of_eq g12.symm))
        have V_ab := V_ab.ext X12
        have S_Z := S_Z.ext X12
        have F_mag_zo := F_mag_zo.ext X12
        have V_zm := V_zm.ext X12
        have V_nb12 : Ar Z h12 nb12 .int 2 (lf [(.int (0 : Int32)), (.int (0 : Int32))]) := V_nb12.congr (lf_rep 2 _)
        refine Jvm.OwnW.astore O12 dS_70 rfl (L' := #[.val (.int (own_b (own_d V 4))), .val (.ref ab), .val (.int z), .val (.int zn), .val (.int en), .val (.ref nb12), .unset, .unset]) rfl (q := 72) rfl ?_
        refine Jvm.OwnW.iloadN O12 dS_72 rfl (q := 73) rfl ?_
        refine Jvm.OwnW.sipush O12 dS_73 (r := (255 : Int32)) rfl (q := 76) rfl ?_
        refine Jvm.OwnW.iand O12 dS_76 rfl (q := 77) rfl ?_
        refine Jvm.OwnW.istore O12 dS_77 (L' := #[.val (.int (own_b (own_d V 4))), .val (.ref ab), .val (.int z), .val (.int zn), .val (.int en), .val (.ref nb12), .val (.int ((own_b (own_d V 4)) &&& (255 : Int32))), .unset]) rfl (q := 79) rfl ?_
        refine Jvm.OwnW.iload O12 dS_79 rfl (q := 81) rfl ?_
        refine Jvm.OwnW.iloadN O12 dS_81 rfl (q := 82) rfl ?_
        refine Jvm.OwnW.isub O12 dS_82 rfl (q := 83) rfl ?_
        rw [show (en - z) = (4 : Int32) from eq32 ((own_df henv hz (c := 4) (by omega) (by omega)).trans rfl)]
        refine Jvm.OwnW.iconst O12 dS_83 (r := (3 : Int32)) rfl (q := 84) rfl ?_
        refine Jvm.OwnW.iand O12 dS_84 (r := (0 : Int32)) (by decide) (q := 85) rfl ?_
        refine Jvm.OwnW.ifYes O12 dS_85 (teq0 (show (0 : Int32) = (0 : Int32) from (by decide))).1 (by decide) (q := 109) rfl ?_
        refine Jvm.OwnW.aload O12 dS_109 rfl rfl (q := 111) rfl ?_
        refine Jvm.OwnW.iconst O12 dS_111 (r := (0 : Int32)) rfl (q := 112) rfl ?_
        refine Jvm.OwnW.iload O12 dS_112 rfl (q := 114) rfl ?_
        rw [show ((own_b (own_d V 4)) &&& (255 : Int32)) = own_i (V / 4294967296) from own_iU (own_h0 V 4) (by simp only [own_d, Nat.reducePow, Nat.div_one]; omega)]
        refine Jvm.OwnW.iasA O12 dS_114 V_nb12 (i := 0) rfl (by decide) (Or.inr N12) (q := 115) rfl ?_
        intro T13 h13 O13 W13
        have V_nb12 : Ar Z h13 nb12 .int 2 (lf [(.int (own_i (V / 4294967296))), (.int (0 : Int32))]) := V_nb12.setL W13 (by decide) (Nat.le_of_ble_eq_true rfl)
        have V_ab := V_ab.other W13 ne_ab_nb12
        have S_Z := S_Z.wr W13
        have F_mag_zo := F_mag_zo.other W13 (Or.inl ne_zo_nb12)
        have V_zm := V_zm.other W13 ne_zm_nb12
        refine Jvm.OwnW.iconst O13 dS_115 (r := (1 : Int32)) rfl (q := 116) rfl ?_
        refine Jvm.OwnW.istore O13 dS_116 (L' := #[.val (.int (own_b (own_d V 4))), .val (.ref ab), .val (.int z), .val (.int zn), .val (.int en), .val (.ref nb12), .val (.int (own_i (V / 4294967296))), .val (.int (1 : Int32))]) rfl (q := 118) rfl ?_
        refine Jvm.OwnW.iloadN O13 dS_118 rfl (q := 119) rfl ?_
        refine Jvm.OwnW.iload O13 dS_119 rfl (q := 121) rfl ?_
        refine Jvm.OwnW.icmpNo O13 dS_121 (tlt (show z < en from lt32 (by rw [henv, hz]; omega))).2.1 (q := 124) rfl ?_
        refine Jvm.OwnW.aload O13 dS_124 rfl rfl (q := 126) rfl ?_
        refine Jvm.OwnW.iload O13 dS_126 rfl (q := 128) rfl ?_
        refine Jvm.OwnW.iinc O13 dS_128 rfl (L' := #[.val (.int (own_b (own_d V 4))), .val (.ref ab), .val (.int z), .val (.int zn), .val (.int en), .val (.ref nb12), .val (.int (own_i (V / 4294967296))), .val (.int (2 : Int32))]) rfl (q := 131) rfl ?_
        refine Jvm.OwnW.aloadN O13 dS_131 rfl rfl (q := 132) rfl ?_
        refine Jvm.OwnW.iloadN O13 dS_132 rfl (q := 133) rfl ?_
        refine Jvm.OwnW.iinc O13 dS_133 rfl (L' := #[.val (.int (own_b (own_d V 4))), .val (.ref ab), .val (.int (z + (1 : Int32))), .val (.int zn), .val (.int en), .val (.ref nb12), .val (.int (own_i (V / 4294967296))), .val (.int (2 : Int32))]) rfl (q := 136) rfl ?_
        refine Jvm.OwnW.balA O13 dS_136 V_ab (i := (i + 1)) hz (by omega) (v := (.int (own_b (own_d V 3)))) (own_fe (by omega)) (q := 137) rfl ?_
        refine Jvm.OwnW.bipush O13 dS_137 (r := (24 : Int32)) rfl (q := 139) rfl ?_
        refine Jvm.OwnW.ishl O13 dS_139 rfl (q := 140) rfl ?_
        refine Jvm.OwnW.aloadN O13 dS_140 rfl rfl (q := 141) rfl ?_
        refine Jvm.OwnW.iloadN O13 dS_141 rfl (q := 142) rfl ?_
        refine Jvm.OwnW.iinc O13 dS_142 rfl (L' := #[.val (.int (own_b (own_d V 4))), .val (.ref ab), .val (.int ((z + (1 : Int32)) + (1 : Int32))), .val (.int zn), .val (.int en), .val (.ref nb12), .val (.int (own_i (V / 4294967296))), .val (.int (2 : Int32))]) rfl (q := 145) rfl ?_
        refine Jvm.OwnW.balA O13 dS_145 V_ab (i := (i + 1 + 1)) (own_za hz (by omega)) (by omega) (v := (.int (own_b (own_d V 2)))) (own_fe (by omega)) (q := 146) rfl ?_
        refine Jvm.OwnW.sipush O13 dS_146 (r := (255 : Int32)) rfl (q := 149) rfl ?_
        refine Jvm.OwnW.iand O13 dS_149 rfl (q := 150) rfl ?_
        refine Jvm.OwnW.bipush O13 dS_150 (r := (16 : Int32)) rfl (q := 152) rfl ?_
        refine Jvm.OwnW.ishl O13 dS_152 rfl (q := 153) rfl ?_
        refine Jvm.OwnW.ior O13 dS_153 rfl (q := 154) rfl ?_
        refine Jvm.OwnW.aloadN O13 dS_154 rfl rfl (q := 155) rfl ?_
        refine Jvm.OwnW.iloadN O13 dS_155 rfl (q := 156) rfl ?_
        refine Jvm.OwnW.iinc O13 dS_156 rfl (L' := #[.val (.int (own_b (own_d V 4))), .val (.ref ab), .val (.int (((z + (1 : Int32)) + (1 : Int32)) + (1 : Int32))), .val (.int zn), .val (.int en), .val (.ref nb12), .val (.int (own_i (V / 4294967296))), .val (.int (2 : Int32))]) rfl (q := 159) rfl ?_
        refine Jvm.OwnW.balA O13 dS_159 V_ab (i := (i + 1 + 1 + 1)) (own_za (own_za hz (by omega)) (by omega)) (by omega) (v := (.int (own_b (own_d V 1)))) (own_fe (by omega)) (q := 160) rfl ?_
        refine Jvm.OwnW.sipush O13 dS_160 (r := (255 : Int32)) rfl (q := 163) rfl ?_
        refine Jvm.OwnW.iand O13 dS_163 rfl (q := 164) rfl ?_
        refine Jvm.OwnW.bipush O13 dS_164 (r := (8 : Int32)) rfl (q := 166) rfl ?_
        refine Jvm.OwnW.ishl O13 dS_166 rfl (q := 167) rfl ?_
        refine Jvm.OwnW.ior O13 dS_167 rfl (q := 168) rfl ?_
        refine Jvm.OwnW.aloadN O13 dS_168 rfl rfl (q := 169) rfl ?_
        refine Jvm.OwnW.iloadN O13 dS_169 rfl (q := 170) rfl ?_
        refine Jvm.OwnW.iinc O13 dS_170 rfl (L' := #[.val (.int (own_b (own_d V 4))), .val (.ref ab), .val (.int ((((z + (1 : Int32)) + (1 : Int32)) + (1 : Int32)) + (1 : Int32))), .val (.int zn), .val (.int en), .val (.ref nb12), .val (.int (own_i (V / 4294967296))), .val (.int (2 : Int32))]) rfl (q := 173) rfl ?_
        refine Jvm.OwnW.balA O13 dS_173 V_ab (i := (i + 1 + 1 + 1 + 1)) (own_za (own_za (own_za hz (by omega)) (by omega)) (by omega)) (by omega) (v := (.int (own_b (own_d V 0)))) (own_fe (by omega)) (q := 174) rfl ?_
        refine Jvm.OwnW.sipush O13 dS_174 (r := (255 : Int32)) rfl (q := 177) rfl ?_
        refine Jvm.OwnW.iand O13 dS_177 rfl (q := 178) rfl ?_
        refine Jvm.OwnW.ior O13 dS_178 rfl (q := 179) rfl ?_
        rw [show (((((own_b (own_d V 3)) <<< ((24 : Int32) &&& 31)) ||| (((own_b (own_d V 2)) &&& (255 : Int32)) <<< ((16 : Int32) &&& 31))) ||| (((own_b (own_d V 1)) &&& (255 : Int32)) <<< ((8 : Int32) &&& 31))) ||| ((own_b (own_d V 0)) &&& (255 : Int32))) = own_i V from own_iU (own_h4 V) (by simp only [own_d, Nat.reducePow, Nat.div_one]; omega)]
        refine Jvm.OwnW.iasA O13 dS_179 V_nb12 (i := 1) rfl (by decide) (Or.inr N12) (q := 180) rfl ?_
        intro T14 h14 O14 W14
        have V_nb12 : Ar Z h14 nb12 .int 2 (lf [(.int (own_i (V / 4294967296))), (.int (own_i V))]) := V_nb12.setL W14 (by decide) (Nat.le_of_ble_eq_true rfl)
        have V_ab := V_ab.other W14 ne_ab_nb12
        have S_Z := S_Z.wr W14
        have F_mag_zo := F_mag_zo.other W14 (Or.inl ne_zo_nb12)
        have V_zm := V_zm.other W14 ne_zm_nb12
        refine Jvm.OwnW.goto O14 dS_180 (by decide) (q := 118) rfl ?_
        refine Jvm.OwnW.iloadN O14 dS_118 rfl (q := 119) rfl ?_
        refine Jvm.OwnW.iload O14 dS_119 rfl (q := 121) rfl ?_
        refine Jvm.OwnW.icmpYes O14 dS_121 (flt (show ¬ (((((z + (1 : Int32)) + (1 : Int32)) + (1 : Int32)) + (1 : Int32)) < en) from nlt32 (by rw [henv, (own_za (own_za (own_za (own_za hz (by omega)) (by omega)) (by omega)) (by omega))]; omega))).2.1 (by decide) (q := 183) rfl ?_
        refine Jvm.OwnW.aload O14 dS_183 rfl rfl (q := 185) rfl ?_
        exact Jvm.OwnW.retA O14 dS_185 rfl rfl (by first | rfl | (cases ((.ref nb12)) <;> rfl)) (by decide) (by decide) ⟨_, rfl, Or.inr (hs0 ▸ N12), Or.inr (Or.inr ⟨by omega, hV64, V_nb12⟩)⟩
      · skip
        show Go C _ _ _ _ (T3.setTop (mkF C.m 62 #[.val (.int (own_b (own_d V 5))), .val (.ref ab), .val (.int z), .val (.int zn), .val (.int en), .unset, .unset, .unset] [(.int en)]))
        refine Jvm.OwnW.iloadN O3 dS_62 rfl (q := 63) rfl ?_
        refine Jvm.OwnW.isub O3 dS_63 rfl (q := 64) rfl ?_
        rw [show (en - z) = (5 : Int32) from eq32 ((own_df henv hz (c := 5) (by omega) (by omega)).trans rfl)]
        refine Jvm.OwnW.iconst O3 dS_64 (r := (2 : Int32)) rfl (q := 65) rfl ?_
        refine Jvm.OwnW.ishr O3 dS_65 (r := (1 : Int32)) (by decide) (q := 66) rfl ?_
        refine Jvm.OwnW.iconst O3 dS_66 (r := (1 : Int32)) rfl (q := 67) rfl ?_
        refine Jvm.OwnW.iadd O3 dS_67 (r := (2 : Int32)) (by decide) (q := 68) rfl ?_
        refine Jvm.OwnW.newA' O3 dS_68 (ty := .int) rfl (hw _ (List.mem_of_getElem? (i := 88) rfl)) (N := 2) rfl (cap := 2) (by decide) (by decide) (c2 := 1) (s2 := 2) rfl rfl (by decide) (by decide) (q := 70) rfl ?_
        intro nb15 T15 h15 g15 N15 O15 X15 V_nb15
        have ne_ab_nb15 : ab ≠ nb15 := Nat.ne_of_lt (Nat.lt_of_lt_of_le V_ab.lt (Nat.le_of_eq g15.symm))
        have ne_zo_nb15 : zo ≠ nb15 := Nat.ne_of_lt (Nat.lt_of_lt_of_le F_mag_zo.lt (Nat.le_of_eq g15.symm))
        have ne_zm_nb15 : zm ≠ nb15 := Nat.ne_of_lt (Nat.lt_of_lt_of_le V_zm.lt (Nat.le_of_eq g15.symm))
        have V_ab := V_ab.ext X15
        have S_Z := S_Z.ext X15
        have F_mag_zo := F_mag_zo.ext X15
        have V_zm := V_zm.ext X15
        have V_nb15 : Ar Z h15 nb15 .int 2 (lf [(.int (0 : Int32)), (.int (0 : Int32))]) := V_nb15.congr (lf_rep 2 _)
        refine Jvm.OwnW.astore O15 dS_70 rfl (L' := #[.val (.int (own_b (own_d V 5))), .val (.ref ab), .val (.int z), .val (.int zn), .val (.int en), .val (.ref nb15), .unset, .unset]) rfl (q := 72) rfl ?_
        refine Jvm.OwnW.iloadN O15 dS_72 rfl (q := 73) rfl ?_
        refine Jvm.OwnW.sipush O15 dS_73 (r := (255 : Int32)) rfl (q := 76) rfl ?_
        refine Jvm.OwnW.iand O15 dS_76 rfl (q := 77) rfl ?_
        refine Jvm.OwnW.istore O15 dS_77 (L' := #[.val (.int (own_b (own_d V 5))), .val (.ref ab), .val (.int z), .val (.int zn), .val (.int en), .val (.ref nb15), .val (.int ((own_b (own_d V 5)) &&& (255 : Int32))), .unset]) rfl (q := 79) rfl ?_
        refine Jvm.OwnW.iload O15 dS_79 rfl (q := 81) rfl ?_
        refine Jvm.OwnW.iloadN O15 dS_81 rfl (q := 82) rfl ?_
        refine Jvm.OwnW.isub O15 dS_82 rfl (q := 83) rfl ?_
        rw [show (en - z) = (5 : Int32) from eq32 ((own_df henv hz (c := 5) (by omega) (by omega)).trans rfl)]
        refine Jvm.OwnW.iconst O15 dS_83 (r := (3 : Int32)) rfl (q := 84) rfl ?_
        refine Jvm.OwnW.iand O15 dS_84 (r := (1 : Int32)) (by decide) (q := 85) rfl ?_
        refine Jvm.OwnW.ifNo O15 dS_85 (feq0 (show ¬ ((1 : Int32) = (0 : Int32)) from (by decide))).1 (q := 88) rfl ?_
        refine Jvm.OwnW.iload O15 dS_88 rfl (q := 90) rfl ?_
        refine Jvm.OwnW.bipush O15 dS_90 (r := (8 : Int32)) rfl (q := 92) rfl ?_
        refine Jvm.OwnW.ishl O15 dS_92 rfl (q := 93) rfl ?_
        refine Jvm.OwnW.aloadN O15 dS_93 rfl rfl (q := 94) rfl ?_
        refine Jvm.OwnW.iloadN O15 dS_94 rfl (q := 95) rfl ?_
        refine Jvm.OwnW.iinc O15 dS_95 rfl (L' := #[.val (.int (own_b (own_d V 5))), .val (.ref ab), .val (.int (z + (1 : Int32))), .val (.int zn), .val (.int en), .val (.ref nb15), .val (.int ((own_b (own_d V 5)) &&& (255 : Int32))), .unset]) rfl (q := 98) rfl ?_
        refine Jvm.OwnW.balA O15 dS_98 V_ab (i := (i + 1)) hz (by omega) (v := (.int (own_b (own_d V 4)))) (own_fe (by omega)) (q := 99) rfl ?_
        refine Jvm.OwnW.sipush O15 dS_99 (r := (255 : Int32)) rfl (q := 102) rfl ?_
        refine Jvm.OwnW.iand O15 dS_102 rfl (q := 103) rfl ?_
        refine Jvm.OwnW.ior O15 dS_103 rfl (q := 104) rfl ?_
        refine Jvm.OwnW.istore O15 dS_104 (L' := #[.val (.int (own_b (own_d V 5))), .val (.ref ab), .val (.int (z + (1 : Int32))), .val (.int zn), .val (.int en), .val (.ref nb15), .val (.int ((((own_b (own_d V 5)) &&& (255 : Int32)) <<< ((8 : Int32) &&& 31)) ||| ((own_b (own_d V 4)) &&& (255 : Int32)))), .unset]) rfl (q := 106) rfl ?_
        refine Jvm.OwnW.goto O15 dS_106 (by decide) (q := 79) rfl ?_
        refine Jvm.OwnW.iload O15 dS_79 rfl (q := 81) rfl ?_
        refine Jvm.OwnW.iloadN O15 dS_81 rfl (q := 82) rfl ?_
        refine Jvm.OwnW.isub O15 dS_82 rfl (q := 83) rfl ?_
        rw [show (en - (z + (1 : Int32))) = (4 : Int32) from eq32 ((own_df henv (own_za hz (by omega)) (c := 4) (by omega) (by omega)).trans rfl)]
        refine Jvm.OwnW.iconst O15 dS_83 (r := (3 : Int32)) rfl (q := 84) rfl ?_
        refine Jvm.OwnW.iand O15 dS_84 (r := (0 : Int32)) (by decide) (q := 85) rfl ?_
        refine Jvm.OwnW.ifYes O15 dS_85 (teq0 (show (0 : Int32) = (0 : Int32) from (by decide))).1 (by decide) (q := 109) rfl ?_
        refine Jvm.OwnW.aload O15 dS_109 rfl rfl (q := 111) rfl ?_
        refine Jvm.OwnW.iconst O15 dS_111 (r := (0 : Int32)) rfl (q := 112) rfl ?_
        refine Jvm.OwnW.iload O15 dS_112 rfl (q := 114) rfl ?_
        rw [show ((((own_b (own_d V 5)) &&& (255 : Int32)) <<< ((8 : Int32) &&& 31)) ||| ((own_b (own_d V 4)) &&& (255 : Int32))) = own_i (V / 4294967296) from own_iU (own_h1 (own_h0 V 5) V 4) (by simp only [own_d, Nat.reducePow, Nat.div_one]; omega)]
        refine Jvm.OwnW.iasA O15 dS_114 V_nb15 (i := 0) rfl (by decide) (Or.inr N15) (q := 115) rfl ?_
        intro T16 h16 O16 W16
        have V_nb15 : Ar Z h16 nb15 .int 2 (lf [(.int (own_i (V / 4294967296))), (.int (0 : Int32))]) := V_nb15.setL W16 (by decide) (Nat.le_of_ble_eq_true rfl)
        have V_ab := V_ab.other W16 ne_ab_nb15
        have S_Z := S_Z.wr W16
        have F_mag_zo := F_mag_zo.other W16 (Or.inl ne_zo_nb15)
        have V_zm := V_zm.other W16 ne_zm_nb15
        refine Jvm.OwnW.iconst O16 dS_115 (r := (1 : Int32)) rfl (q := 116) rfl ?_
        refine Jvm.OwnW.istore O16 dS_116 (L' := #[.val (.int (own_b (own_d V 5))), .val (.ref ab), .val (.int (z + (1 : Int32))), .val (.int zn), .val (.int en), .val (.ref nb15), .val (.int (own_i (V / 4294967296))), .val (.int (1 : Int32))]) rfl (q := 118) rfl ?_
        refine Jvm.OwnW.iloadN O16 dS_118 rfl (q := 119) rfl ?_
        refine Jvm.OwnW.iload O16 dS_119 rfl (q := 121) rfl ?_
        refine Jvm.OwnW.icmpNo O16 dS_121 (tlt (show (z + (1 : Int32)) < en from lt32 (by rw [henv, (own_za hz (by omega))]; omega))).2.1 (q := 124) rfl ?_
        refine Jvm.OwnW.aload O16 dS_124 rfl rfl (q := 126) rfl ?_
        refine Jvm.OwnW.iload O16 dS_126 rfl (q := 128) rfl ?_
        refine Jvm.OwnW.iinc O16 dS_128 rfl (L' := #[.val (.int (own_b (own_d V 5))), .val (.ref ab), .val (.int (z + (1 : Int32))), .val (.int zn), .val (.int en), .val (.ref nb15), .val (.int (own_i (V / 4294967296))), .val (.int (2 : Int32))]) rfl (q := 131) rfl ?_
        refine Jvm.OwnW.aloadN O16 dS_131 rfl rfl (q := 132) rfl ?_
        refine Jvm.OwnW.iloadN O16 dS_132 rfl (q := 133) rfl ?_
        refine Jvm.OwnW.iinc O16 dS_133 rfl (L' := #[.val (.int (own_b (own_d V 5))), .val (.ref ab), .val (.int ((z + (1 : Int32)) + (1 : Int32))), .val (.int zn), .val (.int en), .val (.ref nb15), .val (.int (own_i (V / 4294967296))), .val (.int (2 : Int32))]) rfl (q := 136) rfl ?_
        refine Jvm.OwnW.balA O16 dS_136 V_ab (i := (i + 1 + 1)) (own_za hz (by omega)) (by omega) (v := (.int (own_b (own_d V 3)))) (own_fe (by omega)) (q := 137) rfl ?_
        refine Jvm.OwnW.bipush O16 dS_137 (r := (24 : Int32)) rfl (q := 139) rfl ?_
        refine Jvm.OwnW.ishl O16 dS_139 rfl (q := 140) rfl ?_
        refine Jvm.OwnW.aloadN O16 dS_140 rfl rfl (q := 141) rfl ?_
        refine Jvm.OwnW.iloadN O16 dS_141 rfl (q := 142) rfl ?_
        refine Jvm.OwnW.iinc O16 dS_142 rfl (L' := #[.val (.int (own_b (own_d V 5))), .val (.ref ab), .val (.int (((z + (1 : Int32)) + (1 : Int32)) + (1 : Int32))), .val (.int zn), .val (.int en), .val (.ref nb15), .val (.int (own_i (V / 4294967296))), .val (.int (2 : Int32))]) rfl (q := 145) rfl ?_
        refine Jvm.OwnW.balA O16 dS_145 V_ab (i := (i + 1 + 1 + 1)) (own_za (own_za hz (by omega)) (by omega)) (by omega) (v := (.int (own_b (own_d V 2)))) (own_fe (by omega)) (q := 146) rfl ?_
        refine Jvm.OwnW.sipush O16 dS_146 (r := (255 : Int32)) rfl (q := 149) rfl ?_
        refine Jvm.OwnW.iand O16 dS_149 rfl (q := 150) rfl ?_
        refine Jvm.OwnW.bipush O16 dS_150 (r := (16 : Int32)) rfl (q := 152) rfl ?_
        refine Jvm.OwnW.ishl O16 dS_152 rfl (q := 153) rfl ?_
        refine Jvm.OwnW.ior O16 dS_153 rfl (q := 154) rfl ?_
        refine Jvm.OwnW.aloadN O16 dS_154 rfl rfl (q := 155) rfl ?_
        refine Jvm.OwnW.iloadN O16 dS_155 rfl (q := 156) rfl ?_
        refine Jvm.OwnW.iinc O16 dS_156 rfl (L' := #[.val (.int (own_b (own_d V 5))), .val (.ref ab), .val (.int ((((z + (1 : Int32)) + (1 : Int32)) + (1 : Int32)) + (1 : Int32))), .val (.int zn), .val (.int en), .val (.ref nb15), .val (.int (own_i (V / 4294967296))), .val (.int (2 : Int32))]) rfl (q := 159) rfl ?_
        refine Jvm.OwnW.balA O16 dS_159 V_ab (i := (i + 1 + 1 + 1 + 1)) (own_za (own_za (own_za hz (by omega)) (by omega)) (by omega)) (by omega) (v := (.int (own_b (own_d V 1)))) (own_fe (by omega)) (q := 160) rfl ?_
        refine Jvm.OwnW.sipush O16 dS_160 (r := (255 : Int32)) rfl (q := 163) rfl ?_
        refine Jvm.OwnW.iand O16 dS_163 rfl (q := 164) rfl ?_
        refine Jvm.OwnW.bipush O16 dS_164 (r := (8 : Int32)) rfl (q := 166) rfl ?_
        refine Jvm.OwnW.ishl O16 dS_166 rfl (q := 167) rfl ?_
        refine Jvm.OwnW.ior O16 dS_167 rfl (q := 168) rfl ?_
        refine Jvm.OwnW.aloadN O16 dS_168 rfl rfl (q := 169) rfl ?_
        refine Jvm.OwnW.iloadN O16 dS_169 rfl (q := 170) rfl ?_
        refine Jvm.OwnW.iinc O16 dS_170 rfl (L' := #[.val (.int (own_b (own_d V 5))), .val (.ref ab), .val (.int (((((z + (1 : Int32)) + (1 : Int32)) + (1 : Int32)) + (1 : Int32)) + (1 : Int32))), .val (.int zn), .val (.int en), .val (.ref nb15), .val (.int (own_i (V / 4294967296))), .val (.int (2 : Int32))]) rfl (q := 173) rfl ?_
        refine Jvm.OwnW.balA O16 dS_173 V_ab (i := (i + 1 + 1 + 1 + 1 + 1)) (own_za (own_za (own_za (own_za hz (by omega)) (by omega)) (by omega)) (by omega)) (by omega) (v := (.int (own_b (own_d V 0)))) (own_fe (by omega)) (q := 174) rfl ?_
        refine Jvm.OwnW.sipush O16 dS_174 (r := (255 : Int32)) rfl (q := 177) rfl ?_
        refine Jvm.OwnW.iand O16 dS_177 rfl (q := 178) rfl ?_
        refine Jvm.OwnW.ior O16 dS_178 rfl (q := 179) rfl ?_
        rw [show (((((own_b (own_d V 3)) <<< ((24 : Int32) &&& 31)) ||| (((own_b (own_d V 2)) &&& (255 : Int32)) <<< ((16 : Int32) &&& 31))) ||| (((own_b (own_d V 1)) &&& (255 : Int32)) <<< ((8 : Int32) &&& 31))) ||| ((own_b (own_d V 0)) &&& (255 : Int32))) = own_i V from own_iU (own_h4 V) (by simp only [own_d, Nat.reducePow, Nat.div_one]; omega)]
        refine Jvm.OwnW.iasA O16 dS_179 V_nb15 (i := 1) rfl (by decide) (Or.inr N15) (q := 180) rfl ?_
        intro T17 h17 O17 W17
        have V_nb15 : Ar Z h17 nb15 .int 2 (lf [(.int (own_i (V / 4294967296))), (.int (own_i V))]) := V_nb15.setL W17 (by decide) (Nat.le_of_ble_eq_true rfl)
        have V_ab := V_ab.other W17 ne_ab_nb15
        have S_Z := S_Z.wr W17
        have F_mag_zo := F_mag_zo.other W17 (Or.inl ne_zo_nb15)
        have V_zm := V_zm.other W17 ne_zm_nb15
        refine Jvm.OwnW.goto O17 dS_180 (by decide) (q := 118) rfl ?_
        refine Jvm.OwnW.iloadN O17 dS_118 rfl (q := 119) rfl ?_
        refine Jvm.OwnW.iload O17 dS_119 rfl (q := 121) rfl ?_
        refine Jvm.OwnW.icmpYes O17 dS_121 (flt (show ¬ ((((((z + (1 : Int32)) + (1 : Int32)) + (1 : Int32)) + (1 : Int32)) + (1 : Int32)) < en) from nlt32 (by rw [henv, (own_za (own_za (own_za (own_za (own_za hz (by omega)) (by omega)) (by omega)) (by omega)) (by omega))]; omega))).2.1 (by decide) (q := 183) rfl ?_
        refine Jvm.OwnW.aload O17 dS_183 rfl rfl (q := 185) rfl ?_
        exact Jvm.OwnW.retA O17 dS_185 rfl rfl (by first | rfl | (cases ((.ref nb15)) <;> rfl)) (by decide) (by decide) ⟨_, rfl, Or.inr (hs0 ▸ N15), Or.inr (Or.inr ⟨by omega, hV64, V_nb15⟩)⟩
      · skip
        show Go C _ _ _ _ (T3.setTop (mkF C.m 62 #[.val (.int (own_b (own_d V 6))), .val (.ref ab), .val (.int z), .val (.int zn), .val (.int en), .unset, .unset, .unset] [(.int en)]))
        refine Jvm.OwnW.iloadN O3 dS_62 rfl (q := 63) rfl ?_
        refine Jvm.OwnW.isub O3 dS_63 rfl (q := 64) rfl ?_
        rw [show (en - z) = (6 : Int32) from eq32 ((own_df henv hz (c := 6) (by omega) (by omega)).trans rfl)]
        refine Jvm.OwnW.iconst O3 dS_64 (r := (2 : Int32)) rfl (q := 65) rfl ?_
        refine Jvm.OwnW.ishr O3 dS_65 (r := (1 : Int32)) (by decide) (q := 66) rfl ?_
        refine Jvm.OwnW.iconst O3 dS_66 (r := (1 : Int32)) rfl (q := 67) rfl ?_
        refine Jvm.OwnW.iadd O3 dS_67 (r := (2 : Int32)) (by decide) (q := 68) rfl ?_
        refine Jvm.OwnW.newA' O3 dS_68 (ty := .int) rfl (hw _ (List.mem_of_getElem? (i := 88) rfl)) (N := 2) rfl (cap := 2) (by decide) (by decide) (c2 := 1) (s2 := 2) rfl rfl (by decide) (by decide) (q := 70) rfl ?_
        intro nb18 T18 h18 g18 N18 O18 X18 V_nb18
        have ne_ab_nb18 : ab ≠ nb18 := Nat.ne_of_lt (Nat.lt_of_lt_of_le V_ab.lt (Nat.le_of_eq g18.symm))
        have ne_zo_nb18 : zo ≠ nb18 := Nat.ne_of_lt (Nat.lt_of_lt_of_le F_mag_zo.lt (Nat.le_of_eq g18.symm))
        have ne_zm_nb18 : zm ≠ nb18 := Nat.ne_of_lt (Nat.lt_of_lt_of_le V_zm.lt (Nat.le_of_eq g18.symm))
        have V_ab := V_ab.ext X18
        have S_Z := S_Z.ext X18
        have F_mag_zo := F_mag_zo.ext X18
        have V_zm := V_zm.ext X18
        have V_nb18 : Ar Z h18 nb18 .int 2 (lf [(.int (0 : Int32)), (.int (0 : Int32))]) := V_nb18.congr (lf_rep 2 _)
        refine Jvm.OwnW.astore O18 dS_70 rfl (L' := #[.val (.int (own_b (own_d V 6))), .val (.ref ab), .val (.int z), .val (.int zn), .val (.int en), .val (.ref nb18), .unset, .unset]) rfl (q := 72) rfl ?_
        refine Jvm.OwnW.iloadN O18 dS_72 rfl (q := 73) rfl ?_
        refine Jvm.OwnW.sipush O18 dS_73 (r := (255 : Int32)) rfl (q := 76) rfl ?_
        refine Jvm.OwnW.iand O18 dS_76 rfl (q := 77) rfl ?_
        refine Jvm.OwnW.istore O18 dS_77 (L' := #[.val (.int (own_b (own_d V 6))), .val (.ref ab), .val (.int z), .val (.int zn), .val (.int en), .val (.ref nb18), .val (.int ((own_b (own_d V 6)) &&& (255 : Int32))), .unset]) rfl (q := 79) rfl ?_
        refine Jvm.OwnW.iload O18 dS_79 rfl (q := 81) rfl ?_
        refine Jvm.OwnW.iloadN O18 dS_81 rfl (q := 82) rfl ?_
        refine Jvm.OwnW.isub O18 dS_82 rfl (q := 83) rfl ?_
        rw [show (en - z) = (6 : Int32) from eq32 ((own_df henv hz (c := 6) (by omega) (by omega)).trans rfl)]
        refine Jvm.OwnW.iconst O18 dS_83 (r := (3 : Int32)) rfl (q := 84) rfl ?_
        refine Jvm.OwnW.iand O18 dS_84 (r := (2 : Int32)) (by decide) (q := 85) rfl ?_
        refine Jvm.OwnW.ifNo O18 dS_85 (feq0 (show ¬ ((2 : Int32) = (0 : Int32)) from (by decide))).1 (q := 88) rfl ?_
        refine Jvm.OwnW.iload O18 dS_88 rfl (q := 90) rfl ?_
        refine Jvm.OwnW.bipush O18 dS_90 (r := (8 : Int32)) rfl (q := 92) rfl ?_
        refine Jvm.OwnW.ishl O18 dS_92 rfl (q := 93) rfl ?_
        refine Jvm.OwnW.aloadN O18 dS_93 rfl rfl (q := 94) rfl ?_
        refine Jvm.OwnW.iloadN O18 dS_94 rfl (q := 95) rfl ?_
        refine Jvm.OwnW.iinc O18 dS_95 rfl (L' := #[.val (.int (own_b (own_d V 6))), .val (.ref ab), .val (.int (z + (1 : Int32))), .val (.int zn), .val (.int en), .val (.ref nb18), .val (.int ((own_b (own_d V 6)) &&& (255 : Int32))), .unset]) rfl (q := 98) rfl ?_
        refine Jvm.OwnW.balA O18 dS_98 V_ab (i := (i + 1)) hz (by omega) (v := (.int (own_b (own_d V 5)))) (own_fe (by omega)) (q := 99) rfl ?_
        refine Jvm.OwnW.sipush O18 dS_99 (r := (255 : Int32)) rfl (q := 102) rfl ?_
        refine Jvm.OwnW.iand O18 dS_102 rfl (q := 103) rfl ?_
        refine Jvm.OwnW.ior O18 dS_103 rfl (q := 104) rfl ?_
        refine Jvm.OwnW.istore O18 dS_104 (L' := #[.val (.int (own_b (own_d V 6))), .val (.ref ab), .val (.int (z + (1 : Int32))), .val (.int zn), .val (.int en), .val (.ref nb18), .val (.int ((((own_b (own_d V 6)) &&& (255 : Int32)) <<< ((8 : Int32) &&& 31)) ||| ((own_b (own_d V 5)) &&& (255 : Int32)))), .unset]) rfl (q := 106) rfl ?_
        refine Jvm.OwnW.goto O18 dS_106 (by decide) (q := 79) rfl ?_
        refine Jvm.OwnW.iload O18 dS_79 rfl (q := 81) rfl ?_
        refine Jvm.OwnW.iloadN O18 dS_81 rfl (q := 82) rfl ?_
        refine Jvm.OwnW.isub O18 dS_82 rfl (q := 83) rfl ?_
        rw [show (en - (z + (1 : Int32))) = (5 : Int32) from eq32 ((own_df henv (own_za hz (by omega)) (c := 5) (by omega) (by omega)).trans rfl)]
        refine Jvm.OwnW.iconst O18 dS_83 (r := (3 : Int32)) rfl (q := 84) rfl ?_
        refine Jvm.OwnW.iand O18 dS_84 (r := (1 : Int32)) (by decide) (q := 85) rfl ?_
        refine Jvm.OwnW.ifNo O18 dS_85 (feq0 (show ¬ ((1 : Int32) = (0 : Int32)) from (by decide))).1 (q := 88) rfl ?_
        refine Jvm.OwnW.iload O18 dS_88 rfl (q := 90) rfl ?_
        refine Jvm.OwnW.bipush O18 dS_90 (r := (8 : Int32)) rfl (q := 92) rfl ?_
        refine Jvm.OwnW.ishl O18 dS_92 rfl (q := 93) rfl ?_
        refine Jvm.OwnW.aloadN O18 dS_93 rfl rfl (q := 94) rfl ?_
        refine Jvm.OwnW.iloadN O18 dS_94 rfl (q := 95) rfl ?_
        refine Jvm.OwnW.iinc O18 dS_95 rfl (L' := #[.val (.int (own_b (own_d V 6))), .val (.ref ab), .val (.int ((z + (1 : Int32)) + (1 : Int32))), .val (.int zn), .val (.int en), .val (.ref nb18), .val (.int ((((own_b (own_d V 6)) &&& (255 : Int32)) <<< ((8 : Int32) &&& 31)) ||| ((own_b (own_d V 5)) &&& (255 : Int32)))), .unset]) rfl (q := 98) rfl ?_
        refine Jvm.OwnW.balA O18 dS_98 V_ab (i := (i + 1 + 1)) (own_za hz (by omega)) (by omega) (v := (.int (own_b (own_d V 4)))) (own_fe (by omega)) (q := 99) rfl ?_
        refine Jvm.OwnW.sipush O18 dS_99 (r := (255 : Int32)) rfl (q := 102) rfl ?_
        refine Jvm.OwnW.iand O18 dS_102 rfl (q := 103) rfl ?_
        refine Jvm.OwnW.ior O18 dS_103 rfl (q := 104) rfl ?_
        refine Jvm.OwnW.istore O18 dS_104 (L' := #[.val (.int (own_b (own_d V 6))), .val (.ref ab), .val (.int ((z + (1 : Int32)) + (1 : Int32))), .val (.int zn), .val (.int en), .val (.ref nb18), .val (.int ((((((own_b (own_d V 6)) &&& (255 : Int32)) <<< ((8 : Int32) &&& 31)) ||| ((own_b (own_d V 5)) &&& (255 : Int32))) <<< ((8 : Int32) &&& 31)) ||| ((own_b (own_d V 4)) &&& (255 : Int32)))), .unset]) rfl (q := 106) rfl ?_
        refine Jvm.OwnW.goto O18 dS_106 (by decide) (q := 79) rfl ?_
        refine Jvm.OwnW.iload O18 dS_79 rfl (q := 81) rfl ?_
        refine Jvm.OwnW.iloadN O18 dS_81 rfl (q := 82) rfl ?_
        refine Jvm.OwnW.isub O18 dS_82 rfl (q := 83) rfl ?_
        rw [show (en - ((z + (1 : Int32)) + (1 : Int32))) = (4 : Int32) from eq32 ((own_df henv (own_za (own_za hz (by omega)) (by omega)) (c := 4) (by omega) (by omega)).trans rfl)]
        refine Jvm.OwnW.iconst O18 dS_83 (r := (3 : Int32)) rfl (q := 84) rfl ?_
        refine Jvm.OwnW.iand O18 dS_84 (r := (0 : Int32)) (by decide) (q := 85) rfl ?_
        refine Jvm.OwnW.ifYes O18 dS_85 (teq0 (show (0 : Int32) = (0 : Int32) from (by decide))).1 (by decide) (q := 109) rfl ?_
        refine Jvm.OwnW.aload O18 dS_109 rfl rfl (q := 111) rfl ?_
        refine Jvm.OwnW.iconst O18 dS_111 (r := (0 : Int32)) rfl (q := 112) rfl ?_
        refine Jvm.OwnW.iload O18 dS_112 rfl (q := 114) rfl ?_
        rw [show ((((((own_b (own_d V 6)) &&& (255 : Int32)) <<< ((8 : Int32) &&& 31)) ||| ((own_b (own_d V 5)) &&& (255 : Int32))) <<< ((8 : Int32) &&& 31)) ||| ((own_b (own_d V 4)) &&& (255 : Int32))) = own_i (V / 4294967296) from own_iU (own_h1 (own_h1 (own_h0 V 6) V 5) V 4) (by simp only [own_d, Nat.reducePow, Nat.div_one]; omega)]
        refine Jvm.OwnW.iasA O18 dS_114 V_nb18 (i := 0) rfl (by decide) (Or.inr N18) (q := 115) rfl ?_
        intro T19 h19 O19 W19
        have V_nb18 : Ar Z h19 nb18 .int 2 (lf [(.int (own_i (V / 4294967296))), (.int (0 : Int32))]) := V_nb18.setL W19 (by decide) (Nat.le_of_ble_eq_true rfl)
        have V_ab := V_ab.other W19 ne_ab_nb18
        have S_Z := S_Z.wr W19
        have F_mag_zo := F_mag_zo.other W19 (Or.inl ne_zo_nb18)
        have V_zm := V_zm.other W19 ne_zm_nb18
        refine Jvm.OwnW.iconst O19 dS_115 (r := (1 : Int32)) rfl (q := 116) rfl ?_
        refine Jvm.OwnW.istore O19 dS_116 (L' := #[.val (.int (own_b (own_d V 6))), .val (.ref ab), .val (.int ((z + (1 : Int32)) + (1 : Int32))), .val (.int zn), .val (.int en), .val (.ref nb18), .val (.int (own_i (V / 4294967296))), .val (.int (1 : Int32))]) rfl (q := 118) rfl ?_
        refine Jvm.OwnW.iloadN O19 dS_118 rfl (q := 119) rfl ?_
        refine Jvm.OwnW.iload O19 dS_119 rfl (q := 121) rfl ?_
        refine Jvm.OwnW.icmpNo O19 dS_121 (tlt (show ((z + (1 : Int32)) + (1 : Int32)) < en from lt32 (by rw [henv, (own_za (own_za hz (by omega)) (by omega))]; omega))).2.1 (q := 124) rfl ?_
        refine Jvm.OwnW.aload O19 dS_124 rfl rfl (q := 126) rfl ?_
        refine Jvm.OwnW.iload O19 dS_126 rfl (q := 128) rfl ?_
        refine Jvm.OwnW.iinc O19 dS_128 rfl (L' := #[.val (.int (own_b (own_d V 6))), .val (.ref ab), .val (.int ((z + (1 : Int32)) + (1 : Int32))), .val (.int zn), .val (.int en), .val (.ref nb18), .val (.int (own_i (V / 4294967296))), .val (.int (2 : Int32))]) rfl (q := 131) rfl ?_
        refine Jvm.OwnW.aloadN O19 dS_131 rfl rfl (q := 132) rfl ?_
        refine Jvm.OwnW.iloadN O19 dS_132 rfl (q := 133) rfl ?_
        refine Jvm.OwnW.iinc O19 dS_133 rfl (L' := #[.val (.int (own_b (own_d V 6))), .val (.ref ab), .val (.int (((z + (1 : Int32)) + (1 : Int32)) + (1 : Int32))), .val (.int zn), .val (.int en), .val (.ref nb18), .val (.int (own_i (V / 4294967296))), .val (.int (2 : Int32))]) rfl (q := 136) rfl ?_
        refine Jvm.OwnW.balA O19 dS_136 V_ab (i := (i + 1 + 1 + 1)) (own_za (own_za hz (by omega)) (by omega)) (by omega) (v := (.int (own_b (own_d V 3)))) (own_fe (by omega)) (q := 137) rfl ?_
        refine Jvm.OwnW.bipush O19 dS_137 (r := (24 : Int32)) rfl (q := 139) rfl ?_
        refine Jvm.OwnW.ishl O19 dS_139 rfl (q := 140) rfl ?_
        refine Jvm.OwnW.aloadN O19 dS_140 rfl rfl (q := 141) rfl ?_
        refine Jvm.OwnW.iloadN O19 dS_141 rfl (q := 142) rfl ?_
        refine Jvm.OwnW.iinc O19 dS_142 rfl (L' := #[.val (.int (own_b (own_d V 6))), .val (.ref ab), .val (.int ((((z + (1 : Int32)) + (1 : Int32)) + (1 : Int32)) + (1 : Int32))), .val (.int zn), .val (.int en), .val (.ref nb18), .val (.int (own_i (V / 4294967296))), .val (.int (2 : Int32))]) rfl (q := 145) rfl ?_
        refine Jvm.OwnW.balA O19 dS_145 V_ab (i := (i + 1 + 1 + 1 + 1)) (own_za (own_za (own_za hz (by omega)) (by omega)) (by omega)) (by omega) (v := (.int (own_b (own_d V 2)))) (own_fe (by omega)) (q := 146) rfl ?_
        refine Jvm.OwnW.sipush O19 dS_146 (r := (255 : Int32)) rfl (q := 149) rfl ?_
        refine Jvm.OwnW.iand O19 dS_149 rfl (q := 150) rfl ?_
        refine Jvm.OwnW.bipush O19 dS_150 (r := (16 : Int32)) rfl (q := 152) rfl ?_
        refine Jvm.OwnW.ishl O19 dS_152 rfl (q := 153) rfl ?_
        refine Jvm.OwnW.ior O19 dS_153 rfl (q := 154) rfl ?_
        refine Jvm.OwnW.aloadN O19 dS_154 rfl rfl (q := 155) rfl ?_
        refine Jvm.OwnW.iloadN O19 dS_155 rfl (q := 156) rfl ?_
        refine Jvm.OwnW.iinc O19 dS_156 rfl (L' := #[.val (.int (own_b (own_d V 6))), .val (.ref ab), .val (.int (((((z + (1 : Int32)) + (1 : Int32)) + (1 : Int32)) + (1 : Int32)) + (1 : Int32))), .val (.int zn), .val (.int en), .val (.ref nb18), .val (.int (own_i (V / 4294967296))), .val (.int (2 : Int32))]) rfl (q := 159) rfl ?_
        refine Jvm.OwnW.balA O19 dS_159 V_ab (i := (i + 1 + 1 + 1 + 1 + 1)) (own_za (own_za (own_za (own_za hz (by omega)) (by omega)) (by omega)) (by omega)) (by omega) (v := (.int (own_b (own_d V 1)))) (own_fe (by omega)) (q := 160) rfl ?_
        refine Jvm.OwnW.sipush O19 dS_160 (r := (255 : Int32)) rfl (q := 163) rfl ?_
        refine Jvm.OwnW.iand O19 dS_163 rfl (q := 164) rfl ?_
        refine Jvm.OwnW.bipush O19 dS_164 (r := (8 : Int32)) rfl (q := 166) rfl ?_
        refine Jvm.OwnW.ishl O19 dS_166 rfl (q := 167) rfl ?_
        refine Jvm.OwnW.ior O19 dS_167 rfl (q := 168) rfl ?_
        refine Jvm.OwnW.aloadN O19 dS_168 rfl rfl (q := 169) rfl ?_
        refine Jvm.OwnW.iloadN O19 dS_169 rfl (q := 170) rfl ?_
        refine Jvm.OwnW.iinc O19 dS_170 rfl (L' := #[.val (.int (own_b (own_d V 6))), .val (.ref ab), .val (.int ((((((z + (1 : Int32)) + (1 : Int32)) + (1 : Int32)) + (1 : Int32)) + (1 : Int32)) + (1 : Int32))), .val (.int zn), .val (.int en), .val (.ref nb18), .val (.int (own_i (V / 4294967296))), .val (.int (2 : Int32))]) rfl (q := 173) rfl ?_
        refine Jvm.OwnW.balA O19 dS_173 V_ab (i := (i + 1 + 1 + 1 + 1 + 1 + 1)) (own_za (own_za (own_za (own_za (own_za hz (by omega)) (by omega)) (by omega)) (by omega)) (by omega)) (by omega) (v := (.int (own_b (own_d V 0)))) (own_fe (by omega)) (q := 174) rfl ?_
        refine Jvm.OwnW.sipush O19 dS_174 (r := (255 : Int32)) rfl (q := 177) rfl ?_
        refine Jvm.OwnW.iand O19 dS_177 rfl (q := 178) rfl ?_
        refine Jvm.OwnW.ior O19 dS_178 rfl (q := 179) rfl ?_
        rw [show (((((own_b (own_d V 3)) <<< ((24 : Int32) &&& 31)) ||| (((own_b (own_d V 2)) &&& (255 : Int32)) <<< ((16 : Int32) &&& 31))) ||| (((own_b (own_d V 1)) &&& (255 : Int32)) <<< ((8 : Int32) &&& 31))) ||| ((own_b (own_d V 0)) &&& (255 : Int32))) = own_i V from own_iU (own_h4 V) (by simp only [own_d, Nat.reducePow, Nat.div_one]; omega)]
        refine Jvm.OwnW.iasA O19 dS_179 V_nb18 (i := 1) rfl (by decide) (Or.inr N18) (q := 180) rfl ?_
        intro T20 h20 O20 W20
        have V_nb18 : Ar Z h20 nb18 .int 2 (lf [(.int (own_i (V / 4294967296))), (.int (own_i V))]) := V_nb18.setL W20 (by decide) (Nat.le_of_ble_eq_true rfl)
        have V_ab := V_ab.other W20 ne_ab_nb18
        have S_Z := S_Z.wr W20
        have F_mag_zo := F_mag_zo.other W20 (Or.inl ne_zo_nb18)
        have V_zm := V_zm.other W20 ne_zm_nb18
        refine Jvm.OwnW.goto O20 dS_180 (by decide) (q := 118) rfl ?_
        refine Jvm.OwnW.iloadN O20 dS_118 rfl (q := 119) rfl ?_
        refine Jvm.OwnW.iload O20 dS_119 rfl (q := 121) rfl ?_
        refine Jvm.OwnW.icmpYes O20 dS_121 (flt (show ¬ (((((((z + (1 : Int32)) + (1 : Int32)) + (1 : Int32)) + (1 : Int32)) + (1 : Int32)) + (1 : Int32)) < en) from nlt32 (by rw [henv, (own_za (own_za (own_za (own_za (own_za (own_za hz (by omega)) (by omega)) (by omega)) (by omega)) (by omega)) (by omega))]; omega))).2.1 (by decide) (q := 183) rfl ?_
        refine Jvm.OwnW.aload O20 dS_183 rfl rfl (q := 185) rfl ?_
        exact Jvm.OwnW.retA O20 dS_185 rfl rfl (by first | rfl | (cases ((.ref nb18)) <;> rfl)) (by decide) (by decide) ⟨_, rfl, Or.inr (hs0 ▸ N18), Or.inr (Or.inr ⟨by omega, hV64, V_nb18⟩)⟩
      · skip
        show Go C _ _ _ _ (T3.setTop (mkF C.m 62 #[.val (.int (own_b (own_d V 7))), .val (.ref ab), .val (.int z), .val (.int zn), .val (.int en), .unset, .unset, .unset] [(.int en)]))
        refine Jvm.OwnW.iloadN O3 dS_62 rfl (q := 63) rfl ?_
        refine Jvm.OwnW.isub O3 dS_63 rfl (q := 64) rfl ?_
        rw [show (en - z) = (7 : Int32) from eq32 ((own_df henv hz (c := 7) (by omega) (by omega)).trans rfl)]
        refine Jvm.OwnW.iconst O3 dS_64 (r := (2 : Int32)) rfl (q := 65) rfl ?_
        refine Jvm.OwnW.ishr O3 dS_65 (r := (1 : Int32)) (by decide) (q := 66) rfl ?_
        refine Jvm.OwnW.iconst O3 dS_66 (r := (1 : Int32)) rfl (q := 67) rfl ?_
        refine Jvm.OwnW.iadd O3 dS_67 (r := (2 : Int32)) (by decide) (q := 68) rfl ?_
        refine Jvm.OwnW.newA' O3 dS_68 (ty := .int) rfl (hw _ (List.mem_of_getElem? (i := 88) rfl)) (N := 2) rfl (cap := 2) (by decide) (by decide) (c2 := 1) (s2 := 2) rfl rfl (by decide) (by decide) (q := 70) rfl ?_
        intro nb21 T21 h21 g21 N21 O21 X21 V_nb21
        have ne_ab_nb21 : ab ≠ nb21 := Nat.ne_of_lt (Nat.lt_of_lt_of_le V_ab.lt (Nat.le_of_eq g21.symm))
        have ne_zo_nb21 : zo ≠ nb21 := Nat.ne_of_lt (Nat.lt_of_lt_of_le F_mag_zo.lt (Nat.le_of_eq g21.symm))
        have ne_zm_nb21 : zm ≠ nb21 := Nat.ne_of_lt (Nat.lt_of_lt_of_le V_zm.lt (Nat.le_of_eq g21.symm))
        have V_ab := V_ab.ext X21
        have S_Z := S_Z.ext X21
        have F_mag_zo := F_mag_zo.ext X21
        have V_zm := V_zm.ext X21
        have V_nb21 : Ar Z h21 nb21 .int 2 (lf [(.int (0 : Int32)), (.int (0 : Int32))]) := V_nb21.congr (lf_rep 2 _)
        refine Jvm.OwnW.astore O21 dS_70 rfl (L' := #[.val (.int (own_b (own_d V 7))), .val (.ref ab), .val (.int z), .val (.int zn), .val (.int en), .val (.ref nb21), .unset, .unset]) rfl (q := 72) rfl ?_
        refine Jvm.OwnW.iloadN O21 dS_72 rfl (q := 73) rfl ?_
        refine Jvm.OwnW.sipush O21 dS_73 (r := (255 : Int32)) rfl (q := 76) rfl ?_
        refine Jvm.OwnW.iand O21 dS_76 rfl (q := 77) rfl ?_
        refine Jvm.OwnW.istore O21 dS_77 (L' := #[.val (.int (own_b (own_d V 7))), .val (.ref ab), .val (.int z), .val (.int zn), .val (.int en), .val (.ref nb21), .val (.int ((own_b (own_d V 7)) &&& (255 : Int32))), .unset]) rfl (q := 79) rfl ?_
        refine Jvm.OwnW.iload O21 dS_79 rfl (q := 81) rfl ?_
        refine Jvm.OwnW.iloadN O21 dS_81 rfl (q := 82) rfl ?_
        refine Jvm.OwnW.isub O21 dS_82 rfl (q := 83) rfl ?_
        rw [show (en - z) = (7 : Int32) from eq32 ((own_df henv hz (c := 7) (by omega) (by omega)).trans rfl)]
        refine Jvm.OwnW.iconst O21 dS_83 (r := (3 : Int32)) rfl (q := 84) rfl ?_
        refine Jvm.OwnW.iand O21 dS_84 (r := (3 : Int32)) (by decide) (q := 85) rfl ?_
        refine Jvm.OwnW.ifNo O21 dS_85 (feq0 (show ¬ ((3 : Int32) = (0 : Int32)) from (by decide))).1 (q := 88) rfl ?_
        refine Jvm.OwnW.iload O21 dS_88 rfl (q := 90) rfl ?_
        refine Jvm.OwnW.bipush O21 dS_90 (r := (8 : Int32)) rfl (q := 92) rfl ?_
        refine Jvm.OwnW.ishl O21 dS_92 rfl (q := 93) rfl ?_
        refine Jvm.OwnW.aloadN O21 dS_93 rfl rfl (q := 94) rfl ?_
        refine Jvm.OwnW.iloadN O21 dS_94 rfl (q := 95) rfl ?_
        refine Jvm.OwnW.iinc O21 dS_95 rfl (L' := #[.val (.int (own_b (own_d V 7))), .val (.ref ab), .val (.int (z + (1 : Int32))), .val (.int zn), .val (.int en), .val (.ref nb21), .val (.int ((own_b (own_d V 7)) &&& (255 : Int32))), .unset]) rfl (q := 98) rfl ?_
        refine Jvm.OwnW.balA O21 dS_98 V_ab (i := (i + 1)) hz (by omega) (v := (.int (own_b (own_d V 6)))) (own_fe (by omega)) (q := 99) rfl ?_
        refine Jvm.OwnW.sipush O21 dS_99 (r := (255 : Int32)) rfl (q := 102) rfl ?_
        refine Jvm.OwnW.iand O21 dS_102 rfl (q := 103) rfl ?_
        refine Jvm.OwnW.ior O21 dS_103 rfl (q := 104) rfl ?_
        refine Jvm.OwnW.istore O21 dS_104 (L' := #[.val (.int (own_b (own_d V 7))), .val (.ref ab), .val (.int (z + (1 : Int32))), .val (.int zn), .val (.int en), .val (.ref nb21), .val (.int ((((own_b (own_d V 7)) &&& (255 : Int32)) <<< ((8 : Int32) &&& 31)) ||| ((own_b (own_d V 6)) &&& (255 : Int32)))), .unset]) rfl (q := 106) rfl ?_
        refine Jvm.OwnW.goto O21 dS_106 (by decide) (q := 79) rfl ?_
        refine Jvm.OwnW.iload O21 dS_79 rfl (q := 81) rfl ?_
        refine Jvm.OwnW.iloadN O21 dS_81 rfl (q := 82) rfl ?_
        refine Jvm.OwnW.isub O21 dS_82 rfl (q := 83) rfl ?_
        rw [show (en - (z + (1 : Int32))) = (6 : Int32) from eq32 ((own_df henv (own_za hz (by omega)) (c := 6) (by omega) (by omega)).trans rfl)]
        refine Jvm.OwnW.iconst O21 dS_83 (r := (3 : Int32)) rfl (q := 84) rfl ?_
        refine Jvm.OwnW.iand O21 dS_84 (r := (2 : Int32)) (by decide) (q := 85) rfl ?_
        refine Jvm.OwnW.ifNo O21 dS_85 (feq0 (show ¬ ((2 : Int32) = (0 : Int32)) from (by decide))).1 (q := 88) rfl ?_
        refine Jvm.OwnW.iload O21 dS_88 rfl (q := 90) rfl ?_
        refine Jvm.OwnW.bipush O21 dS_90 (r := (8 : Int32)) rfl (q := 92) rfl ?_
        refine Jvm.OwnW.ishl O21 dS_92 rfl (q := 93) rfl ?_
        refine Jvm.OwnW.aloadN O21 dS_93 rfl rfl (q := 94) rfl ?_
        refine Jvm.OwnW.iloadN O21 dS_94 rfl (q := 95) rfl ?_
        refine Jvm.OwnW.iinc O21 dS_95 rfl (L' := #[.val (.int (own_b (own_d V 7))), .val (.ref ab), .val (.int ((z + (1 : Int32)) + (1 : Int32))), .val (.int zn), .val (.int en), .val (.ref nb21), .val (.int ((((own_b (own_d V 7)) &&& (255 : Int32)) <<< ((8 : Int32) &&& 31)) ||| ((own_b (own_d V 6)) &&& (255 : Int32)))), .unset]) rfl (q := 98) rfl ?_
        refine Jvm.OwnW.balA O21 dS_98 V_ab (i := (i + 1 + 1)) (own_za hz (by omega)) (by omega) (v := (.int (own_b (own_d V 5)))) (own_fe (by omega)) (q := 99) rfl ?_
        refine Jvm.OwnW.sipush O21 dS_99 (r := (255 : Int32)) rfl (q := 102) rfl ?_
        refine Jvm.OwnW.iand O21 dS_102 rfl (q := 103) rfl ?_
        refine Jvm.OwnW.ior O21 dS_103 rfl (q := 104) rfl ?_
        refine Jvm.OwnW.istore O21 dS_104 (L' := #[.val (.int (own_b (own_d V 7))), .val (.ref ab), .val (.int ((z + (1 : Int32)) + (1 : Int32))), .val (.int zn), .val (.int en), .val (.ref nb21), .val (.int ((((((own_b (own_d V 7)) &&& (255 : Int32)) <<< ((8 : Int32) &&& 31)) ||| ((own_b (own_d V 6)) &&& (255 : Int32))) <<< ((8 : Int32) &&& 31)) ||| ((own_b (own_d V 5)) &&& (255 : Int32)))), .unset]) rfl (q := 106) rfl ?_
        refine Jvm.OwnW.goto O21 dS_106 (by decide) (q := 79) rfl ?_
        refine Jvm.OwnW.iload O21 dS_79 rfl (q := 81) rfl ?_
        refine Jvm.OwnW.iloadN O21 dS_81 rfl (q := 82) rfl ?_
        refine Jvm.OwnW.isub O21 dS_82 rfl (q := 83) rfl ?_
        rw [show (en - ((z + (1 : Int32)) + (1 : Int32))) = (5 : Int32) from eq32 ((own_df henv (own_za (own_za hz (by omega)) (by omega)) (c := 5) (by omega) (by omega)).trans rfl)]
        refine Jvm.OwnW.iconst O21 dS_83 (r := (3 : Int32)) rfl (q := 84) rfl ?_
        refine Jvm.OwnW.iand O21 dS_84 (r := (1 : Int32)) (by decide) (q := 85) rfl ?_
        refine Jvm.OwnW.ifNo O21 dS_85 (feq0 (show ¬ ((1 : Int32) = (0 : Int32)) from (by decide))).1 (q := 88) rfl ?_
        refine Jvm.OwnW.iload O21 dS_88 rfl (q := 90) rfl ?_
        refine Jvm.OwnW.bipush O21 dS_90 (r := (8 : Int32)) rfl (q := 92) rfl ?_
        refine Jvm.OwnW.ishl O21 dS_92 rfl (q := 93) rfl ?_
        refine Jvm.OwnW.aloadN O21 dS_93 rfl rfl (q := 94) rfl ?_
        refine Jvm.OwnW.iloadN O21 dS_94 rfl (q := 95) rfl ?_
        refine Jvm.OwnW.iinc O21 dS_95 rfl (L' := #[.val (.int (own_b (own_d V 7))), .val (.ref ab), .val (.int (((z + (1 : Int32)) + (1 : Int32)) + (1 : Int32))), .val (.int zn), .val (.int en), .val (.ref nb21), .val (.int ((((((own_b (own_d V 7)) &&& (255 : Int32)) <<< ((8 : Int32) &&& 31)) ||| ((own_b (own_d V 6)) &&& (255 : Int32))) <<< ((8 : Int32) &&& 31)) ||| ((own_b (own_d V 5)) &&& (255 : Int32)))), .unset]) rfl (q := 98) rfl ?_
        refine Jvm.OwnW.balA O21 dS_98 V_ab (i := (i + 1 + 1 + 1)) (own_za (own_za hz (by omega)) (by omega)) (by omega) (v := (.int (own_b (own_d V 4)))) (own_fe (by omega)) (q := 99) rfl ?_
        refine Jvm.OwnW.sipush O21 dS_99 (r := (255 : Int32)) rfl (q := 102) rfl ?_
        refine Jvm.OwnW.iand O21 dS_102 rfl (q := 103) rfl ?_
        refine Jvm.OwnW.ior O21 dS_103 rfl (q := 104) rfl ?_
        refine Jvm.OwnW.istore O21 dS_104 (L' := #[.val (.int (own_b (own_d V 7))), .val (.ref ab), .val (.int (((z + (1 : Int32)) + (1 : Int32)) + (1 : Int32))), .val (.int zn), .val (.int en), .val (.ref nb21), .val (.int ((((((((own_b (own_d V 7)) &&& (255 : Int32)) <<< ((8 : Int32) &&& 31)) ||| ((own_b (own_d V 6)) &&& (255 : Int32))) <<< ((8 : Int32) &&& 31)) ||| ((own_b (own_d V 5)) &&& (255 : Int32))) <<< ((8 : Int32) &&& 31)) ||| ((own_b (own_d V 4)) &&& (255 : Int32)))), .unset]) rfl (q := 106) rfl ?_
        refine Jvm.OwnW.goto O21 dS_106 (by decide) (q := 79) rfl ?_
        refine Jvm.OwnW.iload O21 dS_79 rfl (q := 81) rfl ?_
        refine Jvm.OwnW.iloadN O21 dS_81 rfl (q := 82) rfl ?_
        refine Jvm.OwnW.isub O21 dS_82 rfl (q := 83) rfl ?_
        rw [show (en - (((z + (1 : Int32)) + (1 : Int32)) + (1 : Int32))) = (4 : Int32) from eq32 ((own_df henv (own_za (own_za (own_za hz (by omega)) (by omega)) (by omega)) (c := 4) (by omega) (by omega)).trans rfl)]
        refine Jvm.OwnW.iconst O21 dS_83 (r := (3 : Int32)) rfl (q := 84) rfl ?_
        refine Jvm.OwnW.iand O21 dS_84 (r := (0 : Int32)) (by decide) (q := 85) rfl ?_
        refine Jvm.OwnW.ifYes O21 dS_85 (teq0 (show (0 : Int32) = (0 : Int32) from (by decide))).1 (by decide) (q := 109) rfl ?_
        refine Jvm.OwnW.aload O21 dS_109 rfl rfl (q := 111) rfl ?_
        refine Jvm.OwnW.iconst O21 dS_111 (r := (0 : Int32)) rfl (q := 112) rfl ?_
        refine Jvm.OwnW.iload O21 dS_112 rfl (q := 114) rfl ?_
        rw [show ((((((((own_b (own_d V 7)) &&& (255 : Int32)) <<< ((8 : Int32) &&& 31)) ||| ((own_b (own_d V 6)) &&& (255 : Int32))) <<< ((8 : Int32) &&& 31)) ||| ((own_b (own_d V 5)) &&& (255 : Int32))) <<< ((8 : Int32) &&& 31)) ||| ((own_b (own_d V 4)) &&& (255 : Int32))) = own_i (V / 4294967296) from own_iU (own_h1 (own_h1 (own_h1 (own_h0 V 7) V 6) V 5) V 4) (by simp only [own_d, Nat.reducePow, Nat.div_one]; omega)]
        refine Jvm.OwnW.iasA O21 dS_114 V_nb21 (i := 0) rfl (by decide) (Or.inr N21) (q := 115) rfl ?_
        intro T22 h22 O22 W22
        have V_nb21 : Ar Z h22 nb21 .int 2 (lf [(.int (own_i (V / 4294967296))), (.int (0 : Int32))]) := V_nb21.setL W22 (by decide) (Nat.le_of_ble_eq_true rfl)
        have V_ab := V_ab.other W22 ne_ab_nb21
        have S_Z := S_Z.wr W22
        have F_mag_zo := F_mag_zo.other W22 (Or.inl ne_zo_nb21)
        have V_zm := V_zm.other W22 ne_zm_nb21
        refine Jvm.OwnW.iconst O22 dS_115 (r := (1 : Int32)) rfl (q := 116) rfl ?_
        refine Jvm.OwnW.istore O22 dS_116 (L' := #[.val (.int (own_b (own_d V 7))), .val (.ref ab), .val (.int (((z + (1 : Int32)) + (1 : Int32)) + (1 : Int32))), .val (.int zn), .val (.int en), .val (.ref nb21), .val (.int (own_i (V / 4294967296))), .val (.int (1 : Int32))]) rfl (q := 118) rfl ?_
        refine Jvm.OwnW.iloadN O22 dS_118 rfl (q := 119) rfl ?_
        refine Jvm.OwnW.iload O22 dS_119 rfl (q := 121) rfl ?_
        refine Jvm.OwnW.icmpNo O22 dS_121 (tlt (show (((z + (1 : Int32)) + (1 : Int32)) + (1 : Int32)) < en from lt32 (by rw [henv, (own_za (own_za (own_za hz (by omega)) (by omega)) (by omega))]; omega))).2.1 (q := 124) rfl ?_
        refine Jvm.OwnW.aload O22 dS_124 rfl rfl (q := 126) rfl ?_
        refine Jvm.OwnW.iload O22 dS_126 rfl (q := 128) rfl ?_
        refine Jvm.OwnW.iinc O22 dS_128 rfl (L' := #[.val (.int (own_b (own_d V 7))), .val (.ref ab), .val (.int (((z + (1 : Int32)) + (1 : Int32)) + (1 : Int32))), .val (.int zn), .val (.int en), .val (.ref nb21), .val (.int (own_i (V / 4294967296))), .val (.int (2 : Int32))]) rfl (q := 131) rfl ?_
        refine Jvm.OwnW.aloadN O22 dS_131 rfl rfl (q := 132) rfl ?_
        refine Jvm.OwnW.iloadN O22 dS_132 rfl (q := 133) rfl ?_
        refine Jvm.OwnW.iinc O22 dS_133 rfl (L' := #[.val (.int (own_b (own_d V 7))), .val (.ref ab), .val (.int ((((z + (1 : Int32)) + (1 : Int32)) + (1 : Int32)) + (1 : Int32))), .val (.int zn), .val (.int en), .val (.ref nb21), .val (.int (own_i (V / 4294967296))), .val (.int (2 : Int32))]) rfl (q := 136) rfl ?_
        refine Jvm.OwnW.balA O22 dS_136 V_ab (i := (i + 1 + 1 + 1 + 1)) (own_za (own_za (own_za hz (by omega)) (by omega)) (by omega)) (by omega) (v := (.int (own_b (own_d V 3)))) (own_fe (by omega)) (q := 137) rfl ?_
        refine Jvm.OwnW.bipush O22 dS_137 (r := (24 : Int32)) rfl (q := 139) rfl ?_
        refine Jvm.OwnW.ishl O22 dS_139 rfl (q := 140) rfl ?_
        refine Jvm.OwnW.aloadN O22 dS_140 rfl rfl (q := 141) rfl ?_
        refine Jvm.OwnW.iloadN O22 dS_141 rfl (q := 142) rfl ?_
        refine Jvm.OwnW.iinc O22 dS_142 rfl (L' := #[.val (.int (own_b (own_d V 7))), .val (.ref ab), .val (.int (((((z + (1 : Int32)) + (1 : Int32)) + (1 : Int32)) + (1 : Int32)) + (1 : Int32))), .val (.int zn), .val (.int en), .val (.ref nb21), .val (.int (own_i (V / 4294967296))), .val (.int (2 : Int32))]) rfl (q := 145) rfl ?_
        refine Jvm.OwnW.balA O22 dS_145 V_ab (i := (i + 1 + 1 + 1 + 1 + 1)) (own_za (own_za (own_za (own_za hz (by omega)) (by omega)) (by omega)) (by omega)) (by omega) (v := (.int (own_b (own_d V 2)))) (own_fe (by omega)) (q := 146) rfl ?_
        refine Jvm.OwnW.sipush O22 dS_146 (r := (255 : Int32)) rfl (q := 149) rfl ?_
        refine Jvm.OwnW.iand O22 dS_149 rfl (q := 150) rfl ?_
        refine Jvm.OwnW.bipush O22 dS_150 (r := (16 : Int32)) rfl (q := 152) rfl ?_
        refine Jvm.OwnW.ishl O22 dS_152 rfl (q := 153) rfl ?_
        refine Jvm.OwnW.ior O22 dS_153 rfl (q := 154) rfl ?_
        refine Jvm.OwnW.aloadN O22 dS_154 rfl rfl (q := 155) rfl ?_
        refine Jvm.OwnW.iloadN O22 dS_155 rfl (q := 156) rfl ?_
        refine Jvm.OwnW.iinc O22 dS_156 rfl (L' := #[.val (.int (own_b (own_d V 7))), .val (.ref ab), .val (.int ((((((z + (1 : Int32)) + (1 : Int32)) + (1 : Int32)) + (1 : Int32)) + (1 : Int32)) + (1 : Int32))), .val (.int zn), .val (.int en), .val (.ref nb21), .val (.int (own_i (V / 4294967296))), .val (.int (2 : Int32))]) rfl (q := 159) rfl ?_
        refine Jvm.OwnW.balA O22 dS_159 V_ab (i := (i + 1 + 1 + 1 + 1 + 1 + 1)) (own_za (own_za (own_za (own_za (own_za hz (by omega)) (by omega)) (by omega)) (by omega)) (by omega)) (by omega) (v := (.int (own_b (own_d V 1)))) (own_fe (by omega)) (q := 160) rfl ?_
        refine Jvm.OwnW.sipush O22 dS_160 (r := (255 : Int32)) rfl (q := 163) rfl ?_
        refine Jvm.OwnW.iand O22 dS_163 rfl (q := 164) rfl ?_
        refine Jvm.OwnW.bipush O22 dS_164 (r := (8 : Int32)) rfl (q := 166) rfl ?_
        refine Jvm.OwnW.ishl O22 dS_166 rfl (q := 167) rfl ?_
        refine Jvm.OwnW.ior O22 dS_167 rfl (q := 168) rfl ?_
        refine Jvm.OwnW.aloadN O22 dS_168 rfl rfl (q := 169) rfl ?_
        refine Jvm.OwnW.iloadN O22 dS_169 rfl (q := 170) rfl ?_
        refine Jvm.OwnW.iinc O22 dS_170 rfl (L' := #[.val (.int (own_b (own_d V 7))), .val (.ref ab), .val (.int (((((((z + (1 : Int32)) + (1 : Int32)) + (1 : Int32)) + (1 : Int32)) + (1 : Int32)) + (1 : Int32)) + (1 : Int32))), .val (.int zn), .val (.int en), .val (.ref nb21), .val (.int (own_i (V / 4294967296))), .val (.int (2 : Int32))]) rfl (q := 173) rfl ?_
        refine Jvm.OwnW.balA O22 dS_173 V_ab (i := (i + 1 + 1 + 1 + 1 + 1 + 1 + 1)) (own_za (own_za (own_za (own_za (own_za (own_za hz (by omega)) (by omega)) (by omega)) (by omega)) (by omega)) (by omega)) (by omega) (v := (.int (own_b (own_d V 0)))) (own_fe (by omega)) (q := 174) rfl ?_
        refine Jvm.OwnW.sipush O22 dS_174 (r := (255 : Int32)) rfl (q := 177) rfl ?_
        refine Jvm.OwnW.iand O22 dS_177 rfl (q := 178) rfl ?_
        refine Jvm.OwnW.ior O22 dS_178 rfl (q := 179) rfl ?_
        rw [show (((((own_b (own_d V 3)) <<< ((24 : Int32) &&& 31)) ||| (((own_b (own_d V 2)) &&& (255 : Int32)) <<< ((16 : Int32) &&& 31))) ||| (((own_b (own_d V 1)) &&& (255 : Int32)) <<< ((8 : Int32) &&& 31))) ||| ((own_b (own_d V 0)) &&& (255 : Int32))) = own_i V from own_iU (own_h4 V) (by simp only [own_d, Nat.reducePow, Nat.div_one]; omega)]
        refine Jvm.OwnW.iasA O22 dS_179 V_nb21 (i := 1) rfl (by decide) (Or.inr N21) (q := 180) rfl ?_
        intro T23 h23 O23 W23
        have V_nb21 : Ar Z h23 nb21 .int 2 (lf [(.int (own_i (V / 4294967296))), (.int (own_i V))]) := V_nb21.setL W23 (by decide) (Nat.le_of_ble_eq_true rfl)
        have V_ab := V_ab.other W23 ne_ab_nb21
        have S_Z := S_Z.wr W23
        have F_mag_zo := F_mag_zo.other W23 (Or.inl ne_zo_nb21)
        have V_zm := V_zm.other W23 ne_zm_nb21
        refine Jvm.OwnW.goto O23 dS_180 (by decide) (q := 118) rfl ?_
        refine Jvm.OwnW.iloadN O23 dS_118 rfl (q := 119) rfl ?_
        refine Jvm.OwnW.iload O23 dS_119 rfl (q := 121) rfl ?_
        refine Jvm.OwnW.icmpYes O23 dS_121 (flt (show ¬ ((((((((z + (1 : Int32)) + (1 : Int32)) + (1 : Int32)) + (1 : Int32)) + (1 : Int32)) + (1 : Int32)) + (1 : Int32)) < en) from nlt32 (by rw [henv, (own_za (own_za (own_za (own_za (own_za (own_za (own_za hz (by omega)) (by omega)) (by omega)) (by omega)) (by omega)) (by omega)) (by omega))]; omega))).2.1 (by decide) (q := 183) rfl ?_
        refine Jvm.OwnW.aload O23 dS_183 rfl rfl (q := 185) rfl ?_
        exact Jvm.OwnW.retA O23 dS_185 rfl rfl (by first | rfl | (cases ((.ref nb21)) <;> rfl)) (by decide) (by decide) ⟨_, rfl, Or.inr (hs0 ▸ N21), Or.inr (Or.inr ⟨by omega, hV64, V_nb21⟩)⟩
    have lp : ∀ (k : Nat) (T24 : State), On l Z [] ({ frames := 0, cells := 1, slots := 2, locals := 0 } : Room) "java/math/BigInteger" "stripLeadingZeroBytes" jdk_2097_method_142_code 8 (some (.array .int)) C T24 h0 0 0 → ∀ (i : Nat), ∀ (z : Int32), ∀ (bb : Int32), ∀ (hz : z.toInt = ((i + 1 : Nat) : Int)), ∀ (hi1 : i + k + 1 = n), ∀ (hb : bb = own_b (own_d V (n - 1 - i))), ∀ (hVi : V < 256 ^ (n - i)), Go C [] (fun v h => ∃ mg, v = some (.ref mg) ∧ (mg = zm ∨ h0.size ≤ mg) ∧ own_mag Z h mg V) 1 2 (T24.setTop (mkF C.m 29 #[.val (.int bb), .val (.ref ab), .val (.int z), .val (.int zn), .val (.int en), .unset, .unset, .unset] [])) := by
      intro k
      induction k with
      | zero =>
        intro T24 O24 i z bb hz hi1 hb hVi 
        refine Jvm.OwnW.iloadN O24 dS_29 rfl (q := 30) rfl ?_
        by_cases hc30 : bb = (0 : Int32)
        · refine Jvm.OwnW.ifNo O24 dS_30 (teq0 hc30).2 (q := 33) rfl ?_
          refine Jvm.OwnW.iloadN O24 dS_33 rfl (q := 34) rfl ?_
          refine Jvm.OwnW.iload O24 dS_34 rfl (q := 36) rfl ?_
          refine Jvm.OwnW.icmpYes O24 dS_36 (flt (show ¬ (z < en) from nlt32 (by rw [henv, hz]; omega))).2.1 (by decide) (q := 49) rfl ?_
          refine Jvm.OwnW.iloadN O24 dS_49 rfl (q := 50) rfl ?_
          refine Jvm.OwnW.ifNo O24 dS_50 (teq0 (show bb = (0 : Int32) from hc30)).2 (q := 53) rfl ?_
          have hV0 : V = 0 := by
            have q := own_dz (V := V) (e := n - 1 - i) (by rw [show n - 1 - i + 1 = n - i by omega]; exact hVi) ((own_b0 (own_dlt _ _)).mp (hb.symm.trans hc30))
            rw [show n - 1 - i = 0 by omega, Nat.pow_zero] at q; omega
          refine Jvm.OwnW.getS O24 dS_53 (hw _ (List.mem_of_getElem? (i := 73) rfl)) S_Z (q := 56) rfl ?_
          intro T25 O25
          refine Jvm.OwnW.getF O25 dS_56 (host := "") (Or.inl (hw _ (List.mem_of_getElem? (i := 74) rfl))) Via.refl F_mag_zo (q := 59) rfl ?_
          intro T26 O26
          exact Jvm.OwnW.retA O26 dS_59 rfl rfl (by first | rfl | (cases ((.ref zm)) <;> rfl)) (by decide) (by decide) ⟨zm, rfl, Or.inl rfl, Or.inl ⟨hV0, V_zm⟩⟩
        · refine Jvm.OwnW.ifYes O24 dS_30 (feq0 hc30).2 (by decide) (q := 49) rfl ?_
          refine Jvm.OwnW.iloadN O24 dS_49 rfl (q := 50) rfl ?_
          refine Jvm.OwnW.ifYes O24 dS_50 (feq0 (show ¬ (bb = (0 : Int32)) from hc30)).2 (by decide) (q := 60) rfl ?_
          exact J60 _ O24 i _ _ hz (by omega) hb hVi hc30 
      | succ k ih =>
        intro T24 O24 i z bb hz hi1 hb hVi 
        refine Jvm.OwnW.iloadN O24 dS_29 rfl (q := 30) rfl ?_
        by_cases hc30 : bb = (0 : Int32)
        · refine Jvm.OwnW.ifNo O24 dS_30 (teq0 hc30).2 (q := 33) rfl ?_
          refine Jvm.OwnW.iloadN O24 dS_33 rfl (q := 34) rfl ?_
          refine Jvm.OwnW.iload O24 dS_34 rfl (q := 36) rfl ?_
          refine Jvm.OwnW.icmpNo O24 dS_36 (tlt (show z < en from lt32 (by rw [henv, hz]; omega))).2.1 (q := 39) rfl ?_
          refine Jvm.OwnW.aloadN O24 dS_39 rfl rfl (q := 40) rfl ?_
          refine Jvm.OwnW.iloadN O24 dS_40 rfl (q := 41) rfl ?_
          refine Jvm.OwnW.iinc O24 dS_41 rfl (L' := #[.val (.int bb), .val (.ref ab), .val (.int (z + (1 : Int32))), .val (.int zn), .val (.int en), .unset, .unset, .unset]) rfl (q := 44) rfl ?_
          refine Jvm.OwnW.balA O24 dS_44 V_ab (i := (i + 1)) hz (by omega) (v := (.int (own_b (own_d V (n - 1 - (i + 1)))))) rfl (q := 45) rfl ?_
          refine Jvm.OwnW.istoreN O24 dS_45 (L' := #[.val (.int (own_b (own_d V (n - 1 - (i + 1))))), .val (.ref ab), .val (.int (z + (1 : Int32))), .val (.int zn), .val (.int en), .unset, .unset, .unset]) rfl (q := 46) rfl ?_
          refine Jvm.OwnW.goto O24 dS_46 (by decide) (q := 29) rfl ?_
          exact ih _ O24 (i + 1) _ _ (own_za hz (by omega)) (by omega) rfl (by have q := own_dz (V := V) (e := n - 1 - i) (by rw [show n - 1 - i + 1 = n - i by omega]; exact hVi) ((own_b0 (own_dlt _ _)).mp (hb.symm.trans hc30)); rw [show n - (i + 1) = n - 1 - i by omega]; exact q) 
        · refine Jvm.OwnW.ifYes O24 dS_30 (feq0 hc30).2 (by decide) (q := 49) rfl ?_
          refine Jvm.OwnW.iloadN O24 dS_49 rfl (q := 50) rfl ?_
          refine Jvm.OwnW.ifYes O24 dS_50 (feq0 (show ¬ (bb = (0 : Int32)) from hc30)).2 (by decide) (q := 60) rfl ?_
          exact J60 _ O24 i _ _ hz (by omega) hb hVi hc30 
    exact lp (n - 1) _ O 0 _ _ rfl (by omega) rfl hV
theorem pd_1 : parseMethodDescriptor "(I[BII)[I" = some ⟨[.int, (.array .byte), .int, .int], some (.array .int)⟩ := by decide +kernel
theorem ds_0 : decode jdk_2097_method_141_code 0 = .ok (.ldc_w 696, 3) := by decide +kernel
theorem ds_3 : decode jdk_2097_method_141_code 3 = .ok (.aload_n 0, 1) := by decide +kernel
theorem ds_4 : decode jdk_2097_method_141_code 4 = .ok (.iload_n 1, 1) := by decide +kernel
theorem ds_5 : decode jdk_2097_method_141_code 5 = .ok (.iload_n 2, 1) := by decide +kernel
theorem ds_6 : decode jdk_2097_method_141_code 6 = .ok (.invokestatic 40, 3) := by decide +kernel
theorem ds_9 : decode jdk_2097_method_141_code 9 = .ok (.areturn, 1) := by decide +kernel
theorem ef_s (ab : Addr) (zn : Int32) (zo zm : Addr) (m : MethodId) : entryFrame m #[(.ref ab), (.int (0 : Int32)), (.int zn)] 3 = mkF m 0 #[.val (.ref ab), .val (.int (0 : Int32)), .val (.int zn)] [] := by first | (simp [entryFrame, mkF, argsToLocals, Value.category, maxLocals]; done) | rfl
theorem pn_s : plainFor (⟨"java/math/BigInteger", "stripLeadingZeroBytes", "([BII)[I"⟩ : MethodName) = true := by first | exact plainFor_of_name (by first | (simp [plainName, overriddenIn]; done) | decide +kernel) | decide +kernel
set_option maxRecDepth 65536 in
set_option maxHeartbeats 40000000 in
theorem rm_s (l : Launch) (Z : State) (a0 : Array Value) (hw : ∀ d ∈ tables_1, d.before a0 Z = true) (ab : Addr) (zn : Int32) (zo zm : Addr) (n V : Nat) (h0 : Heap) (V_ab : Ar Z h0 ab .byte n (own_f n V)) (S_Z : Sta Z h0 "java/math/BigInteger" "ZERO" "Ljava/math/BigInteger;" (.ref zo)) (F_mag_zo : Fld Z h0 zo "java/math/BigInteger" "mag" "[I" (.ref zm)) (V_zm : Ar Z h0 zm .int 0 (lf [])) (hzn : zn.toInt = (n : Int)) (hn10 : n ≤ 10) (hV : V < 256 ^ n) (hV64 : V < 18446744073709551616) :
    Met l Z (⟨"java/math/BigInteger", "stripLeadingZeroBytes", "([BII)[I"⟩ : MethodName) jdk_2097_method_141_code 3 (some (.array .int)) [] ({ frames := 1, cells := 1, slots := 2, locals := 19 } : Room) #[(.ref ab), (.int (0 : Int32)), (.int zn)] [] h0 (fun v h => ∃ mg, v = some (.ref mg) ∧ (mg = zm ∨ h0.size ≤ mg) ∧ own_mag Z h mg V) := by
  refine Met.mk pn_s (ef_s ab zn zo zm) ?_
  intro C T hs0 O
  show Go C [] (fun v h => ∃ mg, v = some (.ref mg) ∧ (mg = zm ∨ h0.size ≤ mg) ∧ own_mag Z h mg V) 1 2 (T.setTop (mkF C.m 0 #[.val (.ref ab), .val (.int (0 : Int32)), .val (.int zn)] []))
  refine Jvm.OwnW.ldcwI O ds_0 (hw _ (List.mem_of_getElem? (i := 69) rfl)) (q := 3) rfl ?_
  refine Jvm.OwnW.aloadN O ds_3 rfl rfl (q := 4) rfl ?_
  refine Jvm.OwnW.iloadN O ds_4 rfl (q := 5) rfl ?_
  refine Jvm.OwnW.iloadN O ds_5 rfl (q := 6) rfl ?_
  have lt_ab := V_ab.lt
  have lt_zo := F_mag_zo.lt
  have lt_zm := V_zm.lt
  refine Jvm.OwnW.callS O (y := (⟨"java/math/BigInteger", "stripLeadingZeroBytes", "(I[BII)[I"⟩ : MethodName)) (argsL := [(.int (-2147483648 : Int32)), (.ref ab), (.int (0 : Int32)), (.int zn)]) (rest := []) ds_6 (hw _ (List.mem_of_getElem? (i := 70) rfl)) (hw _ (List.mem_of_getElem? (i := 71) rfl)) (hw _ (List.mem_of_getElem? (i := 43) rfl)) (hw _ (List.mem_of_getElem? (i := 72) rfl)) (by decide) (rm_S l Z a0 hw ab zn zo zm n V h0 V_ab S_Z F_mag_zo V_zm hzn hn10 hV hV64) rfl pd_1 rfl (hst := rfl) (W := 0) (Nat.le_of_eq rfl) (by decide) (by decide) (c2 := 1) (s2 := 2) rfl rfl (by decide) (by decide) all0 (q := 9) rfl ?_
  intro v1 T1 h1 O1 K1 q1
  obtain ⟨mg, rfl, m_mg, M_mg⟩ := q1
  have S_Z := staKeep S_Z K1
  have V_ab := V_ab.keep K1 nin0
  have F_mag_zo := F_mag_zo.keep K1 nin0
  have V_zm := V_zm.keep K1 nin0
  show Go C _ _ _ _ (T1.setTop (mkF C.m 9 #[.val (.ref ab), .val (.int (0 : Int32)), .val (.int zn)] [(.ref mg)]))
  exact Jvm.OwnW.retA O1 ds_9 rfl rfl (by first | rfl | (cases ((.ref mg)) <;> rfl)) (by decide) (by decide) ⟨mg, rfl, m_mg, M_mg⟩
theorem pd_2 : parseMethodDescriptor "()V" = some ⟨[], none⟩ := by decide +kernel
theorem pd_3 : parseMethodDescriptor "(III)I" = some ⟨[.int, .int, .int], some .int⟩ := by decide +kernel
theorem pd_4 : parseMethodDescriptor "([BII)[I" = some ⟨[(.array .byte), .int, .int], some (.array .int)⟩ := by decide +kernel
theorem dd_0 : decode jdk_2097_method_4_code 0 = .ok (.aload_n 0, 1) := by decide +kernel
theorem dd_1 : decode jdk_2097_method_4_code 1 = .ok (.invokespecial 3, 3) := by decide +kernel
theorem dd_4 : decode jdk_2097_method_4_code 4 = .ok (.iload_n 1, 1) := by decide +kernel
theorem dd_5 : decode jdk_2097_method_4_code 5 = .ok (.iconst (-1), 1) := by decide +kernel
theorem dd_6 : decode jdk_2097_method_4_code 6 = .ok (.if_icmp .lt 8, 3) := by decide +kernel
theorem dd_9 : decode jdk_2097_method_4_code 9 = .ok (.iload_n 1, 1) := by decide +kernel
theorem dd_10 : decode jdk_2097_method_4_code 10 = .ok (.iconst 1, 1) := by decide +kernel
theorem dd_11 : decode jdk_2097_method_4_code 11 = .ok (.if_icmp .le 13, 3) := by decide +kernel
theorem dd_24 : decode jdk_2097_method_4_code 24 = .ok (.iload_n 3, 1) := by decide +kernel
theorem dd_25 : decode jdk_2097_method_4_code 25 = .ok (.iload 4, 2) := by decide +kernel
theorem dd_27 : decode jdk_2097_method_4_code 27 = .ok (.aload_n 2, 1) := by decide +kernel
theorem dd_28 : decode jdk_2097_method_4_code 28 = .ok (.arraylength, 1) := by decide +kernel
theorem dd_29 : decode jdk_2097_method_4_code 29 = .ok (.invokestatic 16, 3) := by decide +kernel
theorem dd_32 : decode jdk_2097_method_4_code 32 = .ok (.pop, 1) := by decide +kernel
theorem dd_33 : decode jdk_2097_method_4_code 33 = .ok (.aload_n 0, 1) := by decide +kernel
theorem dd_34 : decode jdk_2097_method_4_code 34 = .ok (.aload_n 2, 1) := by decide +kernel
theorem dd_35 : decode jdk_2097_method_4_code 35 = .ok (.iload_n 3, 1) := by decide +kernel
theorem dd_36 : decode jdk_2097_method_4_code 36 = .ok (.iload 4, 2) := by decide +kernel
theorem dd_38 : decode jdk_2097_method_4_code 38 = .ok (.invokestatic 58, 3) := by decide +kernel
theorem dd_41 : decode jdk_2097_method_4_code 41 = .ok (.putfield 28, 3) := by decide +kernel
theorem dd_44 : decode jdk_2097_method_4_code 44 = .ok (.aload_n 0, 1) := by decide +kernel
theorem dd_45 : decode jdk_2097_method_4_code 45 = .ok (.getfield 28, 3) := by decide +kernel
theorem dd_48 : decode jdk_2097_method_4_code 48 = .ok (.arraylength, 1) := by decide +kernel
theorem dd_49 : decode jdk_2097_method_4_code 49 = .ok (.ifCond .ne 11, 3) := by decide +kernel
theorem dd_52 : decode jdk_2097_method_4_code 52 = .ok (.aload_n 0, 1) := by decide +kernel
theorem dd_53 : decode jdk_2097_method_4_code 53 = .ok (.iconst 0, 1) := by decide +kernel
theorem dd_54 : decode jdk_2097_method_4_code 54 = .ok (.putfield 32, 3) := by decide +kernel
theorem dd_57 : decode jdk_2097_method_4_code 57 = .ok (.goto 22, 3) := by decide +kernel
theorem dd_60 : decode jdk_2097_method_4_code 60 = .ok (.iload_n 1, 1) := by decide +kernel
theorem dd_61 : decode jdk_2097_method_4_code 61 = .ok (.ifCond .ne 13, 3) := by decide +kernel
theorem dd_74 : decode jdk_2097_method_4_code 74 = .ok (.aload_n 0, 1) := by decide +kernel
theorem dd_75 : decode jdk_2097_method_4_code 75 = .ok (.iload_n 1, 1) := by decide +kernel
theorem dd_76 : decode jdk_2097_method_4_code 76 = .ok (.putfield 32, 3) := by decide +kernel
theorem dd_79 : decode jdk_2097_method_4_code 79 = .ok (.aload_n 0, 1) := by decide +kernel
theorem dd_80 : decode jdk_2097_method_4_code 80 = .ok (.getfield 28, 3) := by decide +kernel
theorem dd_83 : decode jdk_2097_method_4_code 83 = .ok (.arraylength, 1) := by decide +kernel
theorem dd_84 : decode jdk_2097_method_4_code 84 = .ok (.ldc 43, 2) := by decide +kernel
theorem dd_86 : decode jdk_2097_method_4_code 86 = .ok (.if_icmp .lt 7, 3) := by decide +kernel
theorem dd_93 : decode jdk_2097_method_4_code 93 = .ok (.return_, 1) := by decide +kernel
theorem ef_d (a1 : Addr) (ab : Addr) (zn : Int32) (zo zm : Addr) (m : MethodId) : entryFrame m #[(.ref a1), (.int (1 : Int32)), (.ref ab), (.int (0 : Int32)), (.int zn)] 5 = mkF m 0 #[.val (.ref a1), .val (.int (1 : Int32)), .val (.ref ab), .val (.int (0 : Int32)), .val (.int zn)] [] := by first | (simp [entryFrame, mkF, argsToLocals, Value.category, maxLocals]; done) | rfl
theorem pn_d : plainFor (⟨"java/math/BigInteger", "<init>", "(I[BII)V"⟩ : MethodName) = true := by first | exact plainFor_of_name (by first | (simp [plainName, overriddenIn]; done) | decide +kernel) | decide +kernel
set_option maxRecDepth 65536 in
set_option maxHeartbeats 40000000 in
theorem rm_d (l : Launch) (Z : State) (a0 : Array Value) (hw : ∀ d ∈ tables_1, d.before a0 Z = true) (a1 : Addr) (ab : Addr) (zn : Int32) (zo zm : Addr) (n V : Nat) (h0 : Heap) (E_a1 : Exa Z h0 a1 "java/math/BigInteger") (F_mag_a1 : Fld Z h0 a1 "java/math/BigInteger" "mag" "[I" .null) (F_signum_a1 : Fld Z h0 a1 "java/math/BigInteger" "signum" "I" (.int (0 : Int32))) (V_ab : Ar Z h0 ab .byte n (own_f n V)) (S_Z : Sta Z h0 "java/math/BigInteger" "ZERO" "Ljava/math/BigInteger;" (.ref zo)) (F_mag_zo : Fld Z h0 zo "java/math/BigInteger" "mag" "[I" (.ref zm)) (V_zm : Ar Z h0 zm .int 0 (lf [])) (hzn : zn.toInt = (n : Int)) (hn10 : n ≤ 10) (hV : V < 256 ^ n) (hV64 : V < 18446744073709551616) (n1b : a1 ≠ ab) (n1z : a1 ≠ zm) (n1o : a1 ≠ zo) :
    Met l Z (⟨"java/math/BigInteger", "<init>", "(I[BII)V"⟩ : MethodName) jdk_2097_method_4_code 5 none [] ({ frames := 2, cells := 1, slots := 2, locals := 34 } : Room) #[(.ref a1), (.int (1 : Int32)), (.ref ab), (.int (0 : Int32)), (.int zn)] [a1] h0 (fun v h => v = none ∧ own_big Z h a1 V) := by
  refine Met.mk pn_d (ef_d a1 ab zn zo zm) ?_
  intro C T hs0 O
  show Go C [a1] (fun v h => v = none ∧ own_big Z h a1 V) 1 2 (T.setTop (mkF C.m 0 #[.val (.ref a1), .val (.int (1 : Int32)), .val (.ref ab), .val (.int (0 : Int32)), .val (.int zn)] []))
  refine Jvm.OwnW.aloadN O dd_0 rfl rfl (q := 1) rfl ?_
  refine Jvm.OwnW.callI0 O (y := (⟨"java/lang/Number", "<init>", "()V"⟩ : MethodName)) (a := a1) (argsL := []) (rest := []) dd_1 rfl (hw _ (List.mem_of_getElem? (i := 51) rfl)) (hw _ (List.mem_of_getElem? (i := 52) rfl)) (hw _ (List.mem_of_getElem? (i := 55) rfl)) (hw _ (List.mem_of_getElem? (i := 56) rfl)) (by decide) (rm_u l Z a0 hw a1 h0) rfl pd_2 rfl (hst := rfl) (W := 0) (Nat.le_of_eq rfl) (by decide) (by decide) (c2 := 0) (s2 := 0) rfl rfl (by decide) (by decide) rfl rfl (q := 4) rfl ?_
  intro v1 T1 O1 q1
  obtain rfl := q1
  show Go C _ _ _ _ (T1.setTop (mkF C.m 4 #[.val (.ref a1), .val (.int (1 : Int32)), .val (.ref ab), .val (.int (0 : Int32)), .val (.int zn)] []))
  refine Jvm.OwnW.iloadN O1 dd_4 rfl (q := 5) rfl ?_
  refine Jvm.OwnW.iconst O1 dd_5 (r := (-1 : Int32)) rfl (q := 6) rfl ?_
  refine Jvm.OwnW.icmpNo O1 dd_6 (flt (show ¬ ((1 : Int32) < (-1 : Int32)) from (by decide))).1 (q := 9) rfl ?_
  refine Jvm.OwnW.iloadN O1 dd_9 rfl (q := 10) rfl ?_
  refine Jvm.OwnW.iconst O1 dd_10 (r := (1 : Int32)) rfl (q := 11) rfl ?_
  refine Jvm.OwnW.icmpYes O1 dd_11 (flt (show ¬ ((1 : Int32) < (1 : Int32)) from (by decide))).2.2.2 (by decide) (q := 24) rfl ?_
  refine Jvm.OwnW.iloadN O1 dd_24 rfl (q := 25) rfl ?_
  refine Jvm.OwnW.iload O1 dd_25 rfl (q := 27) rfl ?_
  refine Jvm.OwnW.aloadN O1 dd_27 rfl rfl (q := 28) rfl ?_
  refine Jvm.OwnW.lenA O1 dd_28 V_ab (z := zn) hzn (q := 29) rfl ?_
  have hz0 : 0 ≤ zn.toInt := by omega
  refine Jvm.OwnW.callS0 O1 (y := (⟨"java/util/Objects", "checkFromIndexSize", "(III)I"⟩ : MethodName)) (argsL := [(.int (0 : Int32)), (.int zn), (.int zn)]) (rest := []) dd_29 (hw _ (List.mem_of_getElem? (i := 58) rfl)) (hw _ (List.mem_of_getElem? (i := 59) rfl)) (hw _ (List.mem_of_getElem? (i := 60) rfl)) (hw _ (List.mem_of_getElem? (i := 61) rfl)) (by decide) (rm_k l Z a0 hw zn h0 hz0) rfl pd_3 rfl (hst := rfl) (W := 0) (Nat.le_of_eq rfl) (by decide) (by decide) (c2 := 0) (s2 := 0) rfl rfl (by decide) (by decide) rfl rfl (q := 32) rfl ?_
  intro v2 T2 O2 q2
  obtain rfl := q2
  show Go C _ _ _ _ (T2.setTop (mkF C.m 32 #[.val (.ref a1), .val (.int (1 : Int32)), .val (.ref ab), .val (.int (0 : Int32)), .val (.int zn)] [(.int (0 : Int32))]))
  refine Jvm.OwnW.pop O2 dd_32 rfl (q := 33) rfl ?_
  refine Jvm.OwnW.aloadN O2 dd_33 rfl rfl (q := 34) rfl ?_
  refine Jvm.OwnW.aloadN O2 dd_34 rfl rfl (q := 35) rfl ?_
  refine Jvm.OwnW.iloadN O2 dd_35 rfl (q := 36) rfl ?_
  refine Jvm.OwnW.iload O2 dd_36 rfl (q := 38) rfl ?_
  have lt_a1 := E_a1.lt
  have lt_ab := V_ab.lt
  have lt_zo := F_mag_zo.lt
  have lt_zm := V_zm.lt
  refine Jvm.OwnW.callS O2 (y := (⟨"java/math/BigInteger", "stripLeadingZeroBytes", "([BII)[I"⟩ : MethodName)) (argsL := [(.ref ab), (.int (0 : Int32)), (.int zn)]) (rest := [(.ref a1)]) dd_38 (hw _ (List.mem_of_getElem? (i := 66) rfl)) (hw _ (List.mem_of_getElem? (i := 67) rfl)) (hw _ (List.mem_of_getElem? (i := 43) rfl)) (hw _ (List.mem_of_getElem? (i := 68) rfl)) (by decide) (rm_s l Z a0 hw ab zn zo zm n V h0 V_ab S_Z F_mag_zo V_zm hzn hn10 hV hV64) rfl pd_4 rfl (hst := rfl) (W := 1) (Nat.le_of_eq rfl) (by decide) (by decide) (c2 := 1) (s2 := 2) rfl rfl (by decide) (by decide) all0 (q := 41) rfl ?_
  intro v3 T3 h3 O3 K3 q3
  obtain ⟨mg, rfl, m_mg, M_mg⟩ := q3
  have S_Z := staKeep S_Z K3
  have E_a1 := E_a1.keep K3
  have F_mag_a1 := F_mag_a1.keep K3 nin0
  have F_signum_a1 := F_signum_a1.keep K3 nin0
  have V_ab := V_ab.keep K3 nin0
  have F_mag_zo := F_mag_zo.keep K3 nin0
  have V_zm := V_zm.keep K3 nin0
  show Go C _ _ _ _ (T3.setTop (mkF C.m 41 #[.val (.ref a1), .val (.int (1 : Int32)), .val (.ref ab), .val (.int (0 : Int32)), .val (.int zn)] [(.ref mg), (.ref a1)]))
  have ne_a1_mg : a1 ≠ mg := by
    rcases m_mg with q | q
    · rw [q]; exact n1z
    · exact Nat.ne_of_lt (Nat.lt_of_lt_of_le lt_a1 q)
  rcases M_mg with ⟨hV0, V_mg⟩ | ⟨hVa, hVb, V_mg⟩ | ⟨hVa, hVb, V_mg⟩
  · skip
    refine Jvm.OwnW.putF O3 dd_41 (host := "") (Or.inl (hw _ (List.mem_of_getElem? (i := 74) rfl))) Via.refl F_mag_a1 E_a1 (Or.inr ⟨hw _ (List.mem_of_getElem? (i := 75) rfl), rfl, rfl⟩) (hw _ (List.mem_of_getElem? (i := 42) rfl)) (ty := (.array .int)) (by decide) rfl rfl (Or.inl (List.mem_cons_self ..)) (q := 44) rfl ?_
    intro T4 h4 O4 W4
    have E_a1 := E_a1.wr W4
    have F_mag_a1 := F_mag_a1.same W4
    have F_signum_a1 := F_signum_a1.other W4 (Or.inr (slot_ne (Or.inr (hw _ (List.mem_of_getElem? (i := 77) rfl))) (Or.inr (hw _ (List.mem_of_getElem? (i := 75) rfl))) (by decide) (t := .int) (t' := (.array .int)) (by decide) (by decide)))
    have V_ab := V_ab.other W4 (Ne.symm n1b)
    have S_Z := S_Z.wr W4
    have F_mag_zo := F_mag_zo.other W4 (Or.inl (Ne.symm n1o))
    have V_zm := V_zm.other W4 (Ne.symm n1z)
    have V_mg := V_mg.other W4 (Ne.symm ne_a1_mg)
    refine Jvm.OwnW.aloadN O4 dd_44 rfl rfl (q := 45) rfl ?_
    refine Jvm.OwnW.getF O4 dd_45 (host := "") (Or.inl (hw _ (List.mem_of_getElem? (i := 74) rfl))) Via.refl F_mag_a1 (q := 48) rfl ?_
    intro T5 O5
    refine Jvm.OwnW.lenA O5 dd_48 V_mg (z := (0 : Int32)) rfl (q := 49) rfl ?_
    refine Jvm.OwnW.ifNo O5 dd_49 (teq0 (show (0 : Int32) = (0 : Int32) from (by decide))).2 (q := 52) rfl ?_
    refine Jvm.OwnW.aloadN O5 dd_52 rfl rfl (q := 53) rfl ?_
    refine Jvm.OwnW.iconst O5 dd_53 (r := (0 : Int32)) rfl (q := 54) rfl ?_
    refine Jvm.OwnW.putF O5 dd_54 (host := "") (Or.inl (hw _ (List.mem_of_getElem? (i := 76) rfl))) Via.refl F_signum_a1 E_a1 (Or.inr ⟨hw _ (List.mem_of_getElem? (i := 77) rfl), rfl, rfl⟩) (hw _ (List.mem_of_getElem? (i := 42) rfl)) (ty := .int) (by decide) rfl rfl (Or.inl (List.mem_cons_self ..)) (q := 57) rfl ?_
    intro T6 h6 O6 W6
    have E_a1 := E_a1.wr W6
    have F_mag_a1 := F_mag_a1.other W6 (Or.inr (slot_ne (Or.inr (hw _ (List.mem_of_getElem? (i := 75) rfl))) (Or.inr (hw _ (List.mem_of_getElem? (i := 77) rfl))) (by decide) (t := (.array .int)) (t' := .int) (by decide) (by decide)))
    have F_signum_a1 := F_signum_a1.same W6
    have V_ab := V_ab.other W6 (Ne.symm n1b)
    have S_Z := S_Z.wr W6
    have F_mag_zo := F_mag_zo.other W6 (Or.inl (Ne.symm n1o))
    have V_zm := V_zm.other W6 (Ne.symm n1z)
    have V_mg := V_mg.other W6 (Ne.symm ne_a1_mg)
    refine Jvm.OwnW.goto O6 dd_57 (by decide) (q := 79) rfl ?_
    refine Jvm.OwnW.aloadN O6 dd_79 rfl rfl (q := 80) rfl ?_
    refine Jvm.OwnW.getF O6 dd_80 (host := "") (Or.inl (hw _ (List.mem_of_getElem? (i := 74) rfl))) Via.refl F_mag_a1 (q := 83) rfl ?_
    intro T7 O7
    refine Jvm.OwnW.lenA O7 dd_83 V_mg (z := (0 : Int32)) rfl (q := 84) rfl ?_
    refine Jvm.OwnW.ldcI O7 dd_84 (hw _ (List.mem_of_getElem? (i := 78) rfl)) (q := 86) rfl ?_
    refine Jvm.OwnW.icmpYes O7 dd_86 (tlt (show (0 : Int32) < (67108864 : Int32) from (by decide))).1 (by decide) (q := 93) rfl ?_
    exact Jvm.OwnW.ret0 O7 dd_93 (by decide) (by decide) ⟨rfl, E_a1, mg, F_mag_a1, (by rw [if_pos hV0]; exact F_signum_a1), Or.inl ⟨hV0, V_mg⟩⟩
  · skip
    refine Jvm.OwnW.putF O3 dd_41 (host := "") (Or.inl (hw _ (List.mem_of_getElem? (i := 74) rfl))) Via.refl F_mag_a1 E_a1 (Or.inr ⟨hw _ (List.mem_of_getElem? (i := 75) rfl), rfl, rfl⟩) (hw _ (List.mem_of_getElem? (i := 42) rfl)) (ty := (.array .int)) (by decide) rfl rfl (Or.inl (List.mem_cons_self ..)) (q := 44) rfl ?_
    intro T8 h8 O8 W8
    have E_a1 := E_a1.wr W8
    have F_mag_a1 := F_mag_a1.same W8
    have F_signum_a1 := F_signum_a1.other W8 (Or.inr (slot_ne (Or.inr (hw _ (List.mem_of_getElem? (i := 77) rfl))) (Or.inr (hw _ (List.mem_of_getElem? (i := 75) rfl))) (by decide) (t := .int) (t' := (.array .int)) (by decide) (by decide)))
    have V_ab := V_ab.other W8 (Ne.symm n1b)
    have S_Z := S_Z.wr W8
    have F_mag_zo := F_mag_zo.other W8 (Or.inl (Ne.symm n1o))
    have V_zm := V_zm.other W8 (Ne.symm n1z)
    have V_mg := V_mg.other W8 (Ne.symm ne_a1_mg)
    refine Jvm.OwnW.aloadN O8 dd_44 rfl rfl (q := 45) rfl ?_
    refine Jvm.OwnW.getF O8 dd_45 (host := "") (Or.inl (hw _ (List.mem_of_getElem? (i := 74) rfl))) Via.refl F_mag_a1 (q := 48) rfl ?_
    intro T9 O9
    refine Jvm.OwnW.lenA O9 dd_48 V_mg (z := (1 : Int32)) rfl (q := 49) rfl ?_
    refine Jvm.OwnW.ifYes O9 dd_49 (feq0 (show ¬ ((1 : Int32) = (0 : Int32)) from (by decide))).2 (by decide) (q := 60) rfl ?_
    refine Jvm.OwnW.iloadN O9 dd_60 rfl (q := 61) rfl ?_
    refine Jvm.OwnW.ifYes O9 dd_61 (feq0 (show ¬ ((1 : Int32) = (0 : Int32)) from (by decide))).2 (by decide) (q := 74) rfl ?_
    refine Jvm.OwnW.aloadN O9 dd_74 rfl rfl (q := 75) rfl ?_
    refine Jvm.OwnW.iloadN O9 dd_75 rfl (q := 76) rfl ?_
    refine Jvm.OwnW.putF O9 dd_76 (host := "") (Or.inl (hw _ (List.mem_of_getElem? (i := 76) rfl))) Via.refl F_signum_a1 E_a1 (Or.inr ⟨hw _ (List.mem_of_getElem? (i := 77) rfl), rfl, rfl⟩) (hw _ (List.mem_of_getElem? (i := 42) rfl)) (ty := .int) (by decide) rfl rfl (Or.inl (List.mem_cons_self ..)) (q := 79) rfl ?_
    intro T10 h10 O10 W10
    have E_a1 := E_a1.wr W10
    have F_mag_a1 := F_mag_a1.other W10 (Or.inr (slot_ne (Or.inr (hw _ (List.mem_of_getElem? (i := 75) rfl))) (Or.inr (hw _ (List.mem_of_getElem? (i := 77) rfl))) (by decide) (t := (.array .int)) (t' := .int) (by decide) (by decide)))
    have F_signum_a1 := F_signum_a1.same W10
    have V_ab := V_ab.other W10 (Ne.symm n1b)
    have S_Z := S_Z.wr W10
    have F_mag_zo := F_mag_zo.other W10 (Or.inl (Ne.symm n1o))
    have V_zm := V_zm.other W10 (Ne.symm n1z)
    have V_mg := V_mg.other W10 (Ne.symm ne_a1_mg)
    refine Jvm.OwnW.aloadN O10 dd_79 rfl rfl (q := 80) rfl ?_
    refine Jvm.OwnW.getF O10 dd_80 (host := "") (Or.inl (hw _ (List.mem_of_getElem? (i := 74) rfl))) Via.refl F_mag_a1 (q := 83) rfl ?_
    intro T11 O11
    refine Jvm.OwnW.lenA O11 dd_83 V_mg (z := (1 : Int32)) rfl (q := 84) rfl ?_
    refine Jvm.OwnW.ldcI O11 dd_84 (hw _ (List.mem_of_getElem? (i := 78) rfl)) (q := 86) rfl ?_
    refine Jvm.OwnW.icmpYes O11 dd_86 (tlt (show (1 : Int32) < (67108864 : Int32) from (by decide))).1 (by decide) (q := 93) rfl ?_
    exact Jvm.OwnW.ret0 O11 dd_93 (by decide) (by decide) ⟨rfl, E_a1, mg, F_mag_a1, (by rw [if_neg (by omega)]; exact F_signum_a1), Or.inr (Or.inl ⟨hVa, hVb, V_mg⟩)⟩
  · skip
    refine Jvm.OwnW.putF O3 dd_41 (host := "") (Or.inl (hw _ (List.mem_of_getElem? (i := 74) rfl))) Via.refl F_mag_a1 E_a1 (Or.inr ⟨hw _ (List.mem_of_getElem? (i := 75) rfl), rfl, rfl⟩) (hw _ (List.mem_of_getElem? (i := 42) rfl)) (ty := (.array .int)) (by decide) rfl rfl (Or.inl (List.mem_cons_self ..)) (q := 44) rfl ?_
    intro T12 h12 O12 W12
    have E_a1 := E_a1.wr W12
    have F_mag_a1 := F_mag_a1.same W12
    have F_signum_a1 := F_signum_a1.other W12 (Or.inr (slot_ne (Or.inr (hw _ (List.mem_of_getElem? (i := 77) rfl))) (Or.inr (hw _ (List.mem_of_getElem? (i := 75) rfl))) (by decide) (t := .int) (t' := (.array .int)) (by decide) (by decide)))
    have V_ab := V_ab.other W12 (Ne.symm n1b)
    have S_Z := S_Z.wr W12
    have F_mag_zo := F_mag_zo.other W12 (Or.inl (Ne.symm n1o))
    have V_zm := V_zm.other W12 (Ne.symm n1z)
    have V_mg := V_mg.other W12 (Ne.symm ne_a1_mg)
    refine Jvm.OwnW.aloadN O12 dd_44 rfl rfl (q := 45) rfl ?_
    refine Jvm.OwnW.getF O12 dd_45 (host := "") (Or.inl (hw _ (List.mem_of_getElem? (i := 74) rfl))) Via.refl F_mag_a1 (q := 48) rfl ?_
    intro T13 O13
    refine Jvm.OwnW.lenA O13 dd_48 V_mg (z := (2 : Int32)) rfl (q := 49) rfl ?_
    refine Jvm.OwnW.ifYes O13 dd_49 (feq0 (show ¬ ((2 : Int32) = (0 : Int32)) from (by decide))).2 (by decide) (q := 60) rfl ?_
    refine Jvm.OwnW.iloadN O13 dd_60 rfl (q := 61) rfl ?_
    refine Jvm.OwnW.ifYes O13 dd_61 (feq0 (show ¬ ((1 : Int32) = (0 : Int32)) from (by decide))).2 (by decide) (q := 74) rfl ?_
    refine Jvm.OwnW.aloadN O13 dd_74 rfl rfl (q := 75) rfl ?_
    refine Jvm.OwnW.iloadN O13 dd_75 rfl (q := 76) rfl ?_
    refine Jvm.OwnW.putF O13 dd_76 (host := "") (Or.inl (hw _ (List.mem_of_getElem? (i := 76) rfl))) Via.refl F_signum_a1 E_a1 (Or.inr ⟨hw _ (List.mem_of_getElem? (i := 77) rfl), rfl, rfl⟩) (hw _ (List.mem_of_getElem? (i := 42) rfl)) (ty := .int) (by decide) rfl rfl (Or.inl (List.mem_cons_self ..)) (q := 79) rfl ?_
    intro T14 h14 O14 W14
    have E_a1 := E_a1.wr W14
    have F_mag_a1 := F_mag_a1.other W14 (Or.inr (slot_ne (Or.inr (hw _ (List.mem_of_getElem? (i := 75) rfl))) (Or.inr (hw _ (List.mem_of_getElem? (i := 77) rfl))) (by decide) (t := (.array .int)) (t' := .int) (by decide) (by decide)))
    have F_signum_a1 := F_signum_a1.same W14
    have V_ab := V_ab.other W14 (Ne.symm n1b)
    have S_Z := S_Z.wr W14
    have F_mag_zo := F_mag_zo.other W14 (Or.inl (Ne.symm n1o))
    have V_zm := V_zm.other W14 (Ne.symm n1z)
    have V_mg := V_mg.other W14 (Ne.symm ne_a1_mg)
    refine Jvm.OwnW.aloadN O14 dd_79 rfl rfl (q := 80) rfl ?_
    refine Jvm.OwnW.getF O14 dd_80 (host := "") (Or.inl (hw _ (List.mem_of_getElem? (i := 74) rfl))) Via.refl F_mag_a1 (q := 83) rfl ?_
    intro T15 O15
    refine Jvm.OwnW.lenA O15 dd_83 V_mg (z := (2 : Int32)) rfl (q := 84) rfl ?_
    refine Jvm.OwnW.ldcI O15 dd_84 (hw _ (List.mem_of_getElem? (i := 78) rfl)) (q := 86) rfl ?_
    refine Jvm.OwnW.icmpYes O15 dd_86 (tlt (show (2 : Int32) < (67108864 : Int32) from (by decide))).1 (by decide) (q := 93) rfl ?_
    exact Jvm.OwnW.ret0 O15 dd_93 (by decide) (by decide) ⟨rfl, E_a1, mg, F_mag_a1, (by rw [if_neg (by omega)]; exact F_signum_a1), Or.inr (Or.inr ⟨hVa, hVb, V_mg⟩)⟩
theorem pd_5 : parseMethodDescriptor "(I[BII)V" = some ⟨[.int, (.array .byte), .int, .int], none⟩ := by decide +kernel
theorem dc_0 : decode jdk_2097_method_5_code 0 = .ok (.aload_n 0, 1) := by decide +kernel
theorem dc_1 : decode jdk_2097_method_5_code 1 = .ok (.iload_n 1, 1) := by decide +kernel
theorem dc_2 : decode jdk_2097_method_5_code 2 = .ok (.aload_n 2, 1) := by decide +kernel
theorem dc_3 : decode jdk_2097_method_5_code 3 = .ok (.iconst 0, 1) := by decide +kernel
theorem dc_4 : decode jdk_2097_method_5_code 4 = .ok (.aload_n 2, 1) := by decide +kernel
theorem dc_5 : decode jdk_2097_method_5_code 5 = .ok (.arraylength, 1) := by decide +kernel
theorem dc_6 : decode jdk_2097_method_5_code 6 = .ok (.invokespecial 63, 3) := by decide +kernel
theorem dc_9 : decode jdk_2097_method_5_code 9 = .ok (.return_, 1) := by decide +kernel
theorem ef_c (a1 : Addr) (ab : Addr) (zn : Int32) (zo zm : Addr) (m : MethodId) : entryFrame m #[(.ref a1), (.int (1 : Int32)), (.ref ab)] 3 = mkF m 0 #[.val (.ref a1), .val (.int (1 : Int32)), .val (.ref ab)] [] := by first | (simp [entryFrame, mkF, argsToLocals, Value.category, maxLocals]; done) | rfl
theorem pn_c : plainFor (⟨"java/math/BigInteger", "<init>", "(I[B)V"⟩ : MethodName) = true := by first | exact plainFor_of_name (by first | (simp [plainName, overriddenIn]; done) | decide +kernel) | decide +kernel
set_option maxRecDepth 65536 in
set_option maxHeartbeats 40000000 in
theorem rm_c (l : Launch) (Z : State) (a0 : Array Value) (hw : ∀ d ∈ tables_1, d.before a0 Z = true) (a1 : Addr) (ab : Addr) (zn : Int32) (zo zm : Addr) (n V : Nat) (h0 : Heap) (E_a1 : Exa Z h0 a1 "java/math/BigInteger") (F_mag_a1 : Fld Z h0 a1 "java/math/BigInteger" "mag" "[I" .null) (F_signum_a1 : Fld Z h0 a1 "java/math/BigInteger" "signum" "I" (.int (0 : Int32))) (V_ab : Ar Z h0 ab .byte n (own_f n V)) (S_Z : Sta Z h0 "java/math/BigInteger" "ZERO" "Ljava/math/BigInteger;" (.ref zo)) (F_mag_zo : Fld Z h0 zo "java/math/BigInteger" "mag" "[I" (.ref zm)) (V_zm : Ar Z h0 zm .int 0 (lf [])) (hzn : zn.toInt = (n : Int)) (hn10 : n ≤ 10) (hV : V < 256 ^ n) (hV64 : V < 18446744073709551616) (n1b : a1 ≠ ab) (n1z : a1 ≠ zm) (n1o : a1 ≠ zo) :
    Met l Z (⟨"java/math/BigInteger", "<init>", "(I[B)V"⟩ : MethodName) jdk_2097_method_5_code 3 none [] ({ frames := 3, cells := 1, slots := 2, locals := 50 } : Room) #[(.ref a1), (.int (1 : Int32)), (.ref ab)] [a1] h0 (fun v h => v = none ∧ own_big Z h a1 V) := by
  refine Met.mk pn_c (ef_c a1 ab zn zo zm) ?_
  intro C T hs0 O
  show Go C [a1] (fun v h => v = none ∧ own_big Z h a1 V) 1 2 (T.setTop (mkF C.m 0 #[.val (.ref a1), .val (.int (1 : Int32)), .val (.ref ab)] []))
  refine Jvm.OwnW.aloadN O dc_0 rfl rfl (q := 1) rfl ?_
  refine Jvm.OwnW.iloadN O dc_1 rfl (q := 2) rfl ?_
  refine Jvm.OwnW.aloadN O dc_2 rfl rfl (q := 3) rfl ?_
  refine Jvm.OwnW.iconst O dc_3 (r := (0 : Int32)) rfl (q := 4) rfl ?_
  refine Jvm.OwnW.aloadN O dc_4 rfl rfl (q := 5) rfl ?_
  refine Jvm.OwnW.lenA O dc_5 V_ab (z := zn) hzn (q := 6) rfl ?_
  refine Jvm.OwnW.callI O (y := (⟨"java/math/BigInteger", "<init>", "(I[BII)V"⟩ : MethodName)) (a := a1) (argsL := [(.int (1 : Int32)), (.ref ab), (.int (0 : Int32)), (.int zn)]) (rest := []) dc_6 rfl (hw _ (List.mem_of_getElem? (i := 47) rfl)) (hw _ (List.mem_of_getElem? (i := 48) rfl)) (hw _ (List.mem_of_getElem? (i := 43) rfl)) (hw _ (List.mem_of_getElem? (i := 50) rfl)) (by decide) (rm_d l Z a0 hw a1 ab zn zo zm n V h0 E_a1 F_mag_a1 F_signum_a1 V_ab S_Z F_mag_zo V_zm hzn hn10 hV hV64 n1b n1z n1o) rfl pd_5 rfl (hst := rfl) (W := 0) (Nat.le_of_eq rfl) (by decide) (by decide) (c2 := 1) (s2 := 2) rfl rfl (by decide) (by decide) (allS (Or.inl (List.mem_cons_self ..)) all0) (q := 9) rfl ?_
  intro v1 T1 h1 O1 K1 q1
  obtain ⟨rfl, B_r⟩ := q1
  have S_Z := staKeep1 S_Z K1 E_a1
  have E_a1 := E_a1.keep K1
  have V_ab := V_ab.keep K1 (ninS (Ne.symm n1b) nin0)
  have F_mag_zo := F_mag_zo.keep K1 (ninS (Ne.symm n1o) nin0)
  have V_zm := V_zm.keep K1 (ninS (Ne.symm n1z) nin0)
  show Go C _ _ _ _ (T1.setTop (mkF C.m 9 #[.val (.ref a1), .val (.int (1 : Int32)), .val (.ref ab)] []))
  exact Jvm.OwnW.ret0 O1 dc_9 (by decide) (by decide) ⟨rfl, B_r⟩
theorem own_t0 {n W P j b : Nat} (hP : P < 2 ^ b) (hb : b = 0) : W + P * 256 ^ j = W := by
  subst hb; rw [Nat.pow_zero] at hP; have : P = 0 := by omega
  subst this; omega
theorem own_Vn {W P j b n : Nat} (hP : P < 2 ^ b) (hW : W < 256 ^ j) (hb : b ≤ 7) (hf : 8 * j + b ≤ 8 * n) (h62 : 8 * j + b ≤ 62) : W + P * 256 ^ j < 256 ^ n ∧ W + P * 256 ^ j < 18446744073709551616 := by
  have e : ∀ k, 256 ^ k = 2 ^ (8 * k) := fun k => by rw [Nat.pow_mul]
  have h1 : (P + 1) * 256 ^ j ≤ 2 ^ b * 256 ^ j := Nat.mul_le_mul_right _ (by omega)
  rw [Nat.add_mul, Nat.one_mul] at h1
  have h2 : 2 ^ b * 256 ^ j = 2 ^ (8 * j + b) := by rw [e, ← Nat.pow_add, Nat.add_comm]
  have h3 : 2 ^ (8 * j + b) ≤ 2 ^ (8 * n) := Nat.pow_le_pow_right (by decide) hf
  have h4 : 2 ^ (8 * j + b) ≤ 2 ^ 62 := Nat.pow_le_pow_right (by decide) h62
  rw [e n]
  exact ⟨by omega, by omega⟩
theorem pd_6 : parseMethodDescriptor "(I[B)V" = some ⟨[.int, (.array .byte)], none⟩ := by decide +kernel
theorem dt_0 : decode prog_8_method_3_code 0 = .ok (.aload_n 0, 1) := by decide +kernel
theorem dt_1 : decode prog_8_method_3_code 1 = .ok (.getfield 25, 3) := by decide +kernel
theorem dt_4 : decode prog_8_method_3_code 4 = .ok (.ifCond .le 20, 3) := by decide +kernel
theorem dt_7 : decode prog_8_method_3_code 7 = .ok (.aload_n 0, 1) := by decide +kernel
theorem dt_8 : decode prog_8_method_3_code 8 = .ok (.getfield 11, 3) := by decide +kernel
theorem dt_11 : decode prog_8_method_3_code 11 = .ok (.aload_n 0, 1) := by decide +kernel
theorem dt_12 : decode prog_8_method_3_code 12 = .ok (.getfield 17, 3) := by decide +kernel
theorem dt_15 : decode prog_8_method_3_code 15 = .ok (.iconst 1, 1) := by decide +kernel
theorem dt_16 : decode prog_8_method_3_code 16 = .ok (.isub, 1) := by decide +kernel
theorem dt_17 : decode prog_8_method_3_code 17 = .ok (.aload_n 0, 1) := by decide +kernel
theorem dt_18 : decode prog_8_method_3_code 18 = .ok (.getfield 21, 3) := by decide +kernel
theorem dt_21 : decode prog_8_method_3_code 21 = .ok (.l2i, 1) := by decide +kernel
theorem dt_22 : decode prog_8_method_3_code 22 = .ok (.i2b, 1) := by decide +kernel
theorem dt_23 : decode prog_8_method_3_code 23 = .ok (.bastore, 1) := by decide +kernel
theorem dt_24 : decode prog_8_method_3_code 24 = .ok (.new 28, 3) := by decide +kernel
theorem dt_27 : decode prog_8_method_3_code 27 = .ok (.dup, 1) := by decide +kernel
theorem dt_28 : decode prog_8_method_3_code 28 = .ok (.iconst 1, 1) := by decide +kernel
theorem dt_29 : decode prog_8_method_3_code 29 = .ok (.aload_n 0, 1) := by decide +kernel
theorem dt_30 : decode prog_8_method_3_code 30 = .ok (.getfield 11, 3) := by decide +kernel
theorem dt_33 : decode prog_8_method_3_code 33 = .ok (.invokespecial 30, 3) := by decide +kernel
theorem dt_36 : decode prog_8_method_3_code 36 = .ok (.areturn, 1) := by decide +kernel
theorem ef_t (a1 : Addr) (ab : Addr) (ix pb zn : Int32) (pe : Int64) (zo zm : Addr) (m : MethodId) : entryFrame m #[(.ref a1)] 1 = mkF m 0 #[.val (.ref a1)] [] := by first | (simp [entryFrame, mkF, argsToLocals, Value.category, maxLocals]; done) | rfl
theorem pn_t : plainFor (⟨"com/example/vary5/vary5/MagnitudeBytes", "toBigInteger", "()Ljava/math/BigInteger;"⟩ : MethodName) = true := by first | exact plainFor_of_name (by first | (simp [plainName, overriddenIn]; done) | decide +kernel) | decide +kernel
set_option maxRecDepth 65536 in
set_option maxHeartbeats 40000000 in
theorem rm_t (l : Launch) (Z : State) (a0 : Array Value) (hw : ∀ d ∈ tables_1, d.before a0 Z = true) (a1 : Addr) (ab : Addr) (ix pb zn : Int32) (pe : Int64) (zo zm : Addr) (n W P j b : Nat) (h0 : Heap) (E_a1 : Exa Z h0 a1 "com/example/vary5/vary5/MagnitudeBytes") (F_bytes_a1 : Fld Z h0 a1 "com/example/vary5/vary5/MagnitudeBytes" "bytes" "[B" (.ref ab)) (F_index_a1 : Fld Z h0 a1 "com/example/vary5/vary5/MagnitudeBytes" "index" "I" (.int ix)) (F_pending_a1 : Fld Z h0 a1 "com/example/vary5/vary5/MagnitudeBytes" "pending" "J" (.long pe)) (F_pendingBits_a1 : Fld Z h0 a1 "com/example/vary5/vary5/MagnitudeBytes" "pendingBits" "I" (.int pb)) (V_ab : Ar Z h0 ab .byte n (own_f n W)) (S_Z : Sta Z h0 "java/math/BigInteger" "ZERO" "Ljava/math/BigInteger;" (.ref zo)) (F_mag_zo : Fld Z h0 zo "java/math/BigInteger" "mag" "[I" (.ref zm)) (V_zm : Ar Z h0 zm .int 0 (lf [])) (n1b : a1 ≠ ab) (nzb : zo ≠ ab) (nmb : zm ≠ ab) (hst : own_st n W P j b ix pb pe) (hfit : 8 * j + b ≤ 8 * n) (h62 : 8 * j + b ≤ 62) (hzn : zn.toInt = (n : Int)) (hn10 : n ≤ 10) :
    Met l Z (⟨"com/example/vary5/vary5/MagnitudeBytes", "toBigInteger", "()Ljava/math/BigInteger;"⟩ : MethodName) prog_8_method_3_code 1 (some (.object "java/math/BigInteger")) [] ({ frames := 4, cells := 2, slots := 8, locals := 65 } : Room) #[(.ref a1)] [ab] h0 (fun v h => ∃ r, v = some (.ref r) ∧ h0.size ≤ r ∧ own_big Z h r (W + P * 256 ^ j)) := by
  refine Met.mk pn_t (ef_t a1 ab ix pb zn pe zo zm) ?_
  intro C T hs0 O
  show Go C [ab] (fun v h => ∃ r, v = some (.ref r) ∧ h0.size ≤ r ∧ own_big Z h r (W + P * 256 ^ j)) 2 8 (T.setTop (mkF C.m 0 #[.val (.ref a1)] []))
  refine Jvm.OwnW.aloadN O dt_0 rfl rfl (q := 1) rfl ?_
  refine Jvm.OwnW.getF O dt_1 (host := "") (Or.inl (hw _ (List.mem_of_getElem? (i := 34) rfl))) Via.refl F_pendingBits_a1 (q := 4) rfl ?_
  intro T1 O1
  obtain ⟨hix, hpe, hpb, hb7, hP, hW⟩ := id hst
  obtain ⟨hV, hV64⟩ := own_Vn hP hW hb7 hfit h62
  obtain ⟨V, hVd⟩ : ∃ V, W + P * 256 ^ j = V := ⟨_, rfl⟩
  rw [hVd] at hV hV64 ⊢
  by_cases hc4 : (0 : Int32) < pb
  · refine Jvm.OwnW.ifNo O1 dt_4 (tgt0 hc4).2 (q := 7) rfl ?_
    refine Jvm.OwnW.aloadN O1 dt_7 rfl rfl (q := 8) rfl ?_
    refine Jvm.OwnW.getF O1 dt_8 (host := "") (Or.inl (hw _ (List.mem_of_getElem? (i := 23) rfl))) Via.refl F_bytes_a1 (q := 11) rfl ?_
    intro T2 O2
    refine Jvm.OwnW.aloadN O2 dt_11 rfl rfl (q := 12) rfl ?_
    refine Jvm.OwnW.getF O2 dt_12 (host := "") (Or.inl (hw _ (List.mem_of_getElem? (i := 25) rfl))) Via.refl F_index_a1 (q := 15) rfl ?_
    intro T3 O3
    refine Jvm.OwnW.iconst O3 dt_15 (r := (1 : Int32)) rfl (q := 16) rfl ?_
    obtain ⟨ix2, hix2⟩ : ∃ zz_, (ix - (1 : Int32)) = zz_ := ⟨_, rfl⟩
    refine Jvm.OwnW.isub O3 dt_16 hix2 (q := 17) rfl ?_
    have hb0 : 0 < b := by rw [Int32.lt_iff_toInt_lt, hpb] at hc4; have : (0 : Int32).toInt = 0 := rfl; omega
    have hix2v := own_ix1 hix hn10 (by omega)
    rw [hix2] at hix2v
    refine Jvm.OwnW.aloadN O3 dt_17 rfl rfl (q := 18) rfl ?_
    refine Jvm.OwnW.getF O3 dt_18 (host := "") (Or.inl (hw _ (List.mem_of_getElem? (i := 32) rfl))) Via.refl F_pending_a1 (q := 21) rfl ?_
    intro T4 O4
    refine Jvm.OwnW.l2i O4 dt_21 rfl (q := 22) rfl ?_
    refine Jvm.OwnW.i2b O4 dt_22 rfl (q := 23) rfl ?_
    refine Jvm.OwnW.basA O4 dt_23 V_ab (i := (n - 1 - j)) hix2v (by omega) (Or.inl (List.mem_cons_self ..)) (y := pe.toInt32.toInt8.toInt32) (b8 _) (q := 24) rfl ?_
    intro T5 h5 O5 W5
    have V_ab := V_ab.set W5 (by omega)
    have E_a1 := E_a1.wr W5
    have F_bytes_a1 := F_bytes_a1.other W5 (Or.inl n1b)
    have F_index_a1 := F_index_a1.other W5 (Or.inl n1b)
    have F_pending_a1 := F_pending_a1.other W5 (Or.inl n1b)
    have F_pendingBits_a1 := F_pendingBits_a1.other W5 (Or.inl n1b)
    have S_Z := S_Z.wr W5
    have F_mag_zo := F_mag_zo.other W5 (Or.inl nzb)
    have V_zm := V_zm.other W5 nmb
    have hP8 : P < 256 := Nat.lt_of_lt_of_le hP (show 2 ^ b ≤ 2 ^ 8 from Nat.pow_le_pow_right (by decide) (by omega))
    have V_ab : Ar Z h5 ab .byte n (own_f n V) := V_ab.congr fun i hi => by rw [own_bV hpe, Nat.mod_eq_of_lt hP8, ← hVd]; exact own_fput hW hP8 (by omega) i hi
    refine Jvm.OwnW.newO O5 dt_24 (hw _ (List.mem_of_getElem? (i := 41) rfl)) (hw _ (List.mem_of_getElem? (i := 42) rfl)) (hw _ (List.mem_of_getElem? (i := 43) rfl)) (c2 := 1) (s2 := 6) rfl rfl (by decide) (by decide) (q := 27) rfl ?_
    intro nb6 T6 h6 g6 N6 O6 X6 E_nb6 D6
    have ne_a1_nb6 : a1 ≠ nb6 := Nat.ne_of_lt (Nat.lt_of_lt_of_le E_a1.lt (Nat.le_of_eq g6.symm))
    have ne_ab_nb6 : ab ≠ nb6 := Nat.ne_of_lt (Nat.lt_of_lt_of_le V_ab.lt (Nat.le_of_eq g6.symm))
    have ne_zo_nb6 : zo ≠ nb6 := Nat.ne_of_lt (Nat.lt_of_lt_of_le F_mag_zo.lt (Nat.le_of_eq g6.symm))
    have ne_zm_nb6 : zm ≠ nb6 := Nat.ne_of_lt (Nat.lt_of_lt_of_le V_zm.lt (Nat.le_of_eq g6.symm))
    have E_a1 := E_a1.ext X6
    have F_bytes_a1 := F_bytes_a1.ext X6
    have F_index_a1 := F_index_a1.ext X6
    have F_pending_a1 := F_pending_a1.ext X6
    have F_pendingBits_a1 := F_pendingBits_a1.ext X6
    have V_ab := V_ab.ext X6
    have S_Z := S_Z.ext X6
    have F_mag_zo := F_mag_zo.ext X6
    have V_zm := V_zm.ext X6
    have F_mag_nb6 : Fld Z h6 nb6 "java/math/BigInteger" "mag" "[I" .null := D6 (Or.inr (hw _ (List.mem_of_getElem? (i := 75) rfl))) (ty := (.array .int)) (by decide)
    have F_signum_nb6 : Fld Z h6 nb6 "java/math/BigInteger" "signum" "I" (.int (0 : Int32)) := D6 (Or.inr (hw _ (List.mem_of_getElem? (i := 77) rfl))) (ty := .int) (by decide)
    refine Jvm.OwnW.dup O6 dt_27 rfl (q := 28) rfl ?_
    refine Jvm.OwnW.iconst O6 dt_28 (r := (1 : Int32)) rfl (q := 29) rfl ?_
    refine Jvm.OwnW.aloadN O6 dt_29 rfl rfl (q := 30) rfl ?_
    refine Jvm.OwnW.getF O6 dt_30 (host := "") (Or.inl (hw _ (List.mem_of_getElem? (i := 23) rfl))) Via.refl F_bytes_a1 (q := 33) rfl ?_
    intro T7 O7
    refine Jvm.OwnW.callI O7 (y := (⟨"java/math/BigInteger", "<init>", "(I[B)V"⟩ : MethodName)) (a := nb6) (argsL := [(.int (1 : Int32)), (.ref ab)]) (rest := [(.ref nb6)]) dt_33 rfl (hw _ (List.mem_of_getElem? (i := 44) rfl)) (hw _ (List.mem_of_getElem? (i := 45) rfl)) (hw _ (List.mem_of_getElem? (i := 43) rfl)) (hw _ (List.mem_of_getElem? (i := 46) rfl)) (by decide) (rm_c l Z a0 hw nb6 ab zn zo zm n V h6 E_nb6 F_mag_nb6 F_signum_nb6 V_ab S_Z F_mag_zo V_zm hzn hn10 hV hV64 (Ne.symm ne_ab_nb6) (Ne.symm ne_zm_nb6) (Ne.symm ne_zo_nb6)) rfl pd_6 rfl (hst := rfl) (W := 1) (Nat.le_of_eq rfl) (by decide) (by decide) (c2 := 2) (s2 := 8) rfl rfl (by decide) (by decide) (allS (Or.inr N6) all0) (q := 36) rfl ?_
    intro v8 T8 h8 O8 K8 q8
    obtain ⟨rfl, B_r⟩ := q8
    have S_Z := staKeep1 S_Z K8 E_nb6
    have E_a1 := E_a1.keep K8
    have F_bytes_a1 := F_bytes_a1.keep K8 (ninS ne_a1_nb6 nin0)
    have F_index_a1 := F_index_a1.keep K8 (ninS ne_a1_nb6 nin0)
    have F_pending_a1 := F_pending_a1.keep K8 (ninS ne_a1_nb6 nin0)
    have F_pendingBits_a1 := F_pendingBits_a1.keep K8 (ninS ne_a1_nb6 nin0)
    have V_ab := V_ab.keep K8 (ninS ne_ab_nb6 nin0)
    have F_mag_zo := F_mag_zo.keep K8 (ninS ne_zo_nb6 nin0)
    have V_zm := V_zm.keep K8 (ninS ne_zm_nb6 nin0)
    have E_nb6 := E_nb6.keep K8
    show Go C _ _ _ _ (T8.setTop (mkF C.m 36 #[.val (.ref a1)] [(.ref nb6)]))
    exact Jvm.OwnW.retA O8 dt_36 rfl rfl (by first | rfl | (cases ((.ref nb6)) <;> rfl)) (by decide) (by decide) ⟨nb6, rfl, hs0 ▸ N6, B_r⟩
  · refine Jvm.OwnW.ifYes O1 dt_4 (fgt0 hc4).2 (by decide) (q := 24) rfl ?_
    have hb0 : b = 0 := by rw [Int32.lt_iff_toInt_lt, hpb] at hc4; have : (0 : Int32).toInt = 0 := rfl; omega
    have V_ab : Ar Z h0 ab .byte n (own_f n V) := by rw [← hVd, own_t0 (n := n) hP hb0]; exact V_ab
    refine Jvm.OwnW.newO O1 dt_24 (hw _ (List.mem_of_getElem? (i := 41) rfl)) (hw _ (List.mem_of_getElem? (i := 42) rfl)) (hw _ (List.mem_of_getElem? (i := 43) rfl)) (c2 := 1) (s2 := 6) rfl rfl (by decide) (by decide) (q := 27) rfl ?_
    intro nb9 T9 h9 g9 N9 O9 X9 E_nb9 D9
    have ne_a1_nb9 : a1 ≠ nb9 := Nat.ne_of_lt (Nat.lt_of_lt_of_le E_a1.lt (Nat.le_of_eq g9.symm))
    have ne_ab_nb9 : ab ≠ nb9 := Nat.ne_of_lt (Nat.lt_of_lt_of_le V_ab.lt (Nat.le_of_eq g9.symm))
    have ne_zo_nb9 : zo ≠ nb9 := Nat.ne_of_lt (Nat.lt_of_lt_of_le F_mag_zo.lt (Nat.le_of_eq g9.symm))
    have ne_zm_nb9 : zm ≠ nb9 := Nat.ne_of_lt (Nat.lt_of_lt_of_le V_zm.lt (Nat.le_of_eq g9.symm))
    have E_a1 := E_a1.ext X9
    have F_bytes_a1 := F_bytes_a1.ext X9
    have F_index_a1 := F_index_a1.ext X9
    have F_pending_a1 := F_pending_a1.ext X9
    have F_pendingBits_a1 := F_pendingBits_a1.ext X9
    have V_ab := V_ab.ext X9
    have S_Z := S_Z.ext X9
    have F_mag_zo := F_mag_zo.ext X9
    have V_zm := V_zm.ext X9
    have F_mag_nb9 : Fld Z h9 nb9 "java/math/BigInteger" "mag" "[I" .null := D9 (Or.inr (hw _ (List.mem_of_getElem? (i := 75) rfl))) (ty := (.array .int)) (by decide)
    have F_signum_nb9 : Fld Z h9 nb9 "java/math/BigInteger" "signum" "I" (.int (0 : Int32)) := D9 (Or.inr (hw _ (List.mem_of_getElem? (i := 77) rfl))) (ty := .int) (by decide)
    refine Jvm.OwnW.dup O9 dt_27 rfl (q := 28) rfl ?_
    refine Jvm.OwnW.iconst O9 dt_28 (r := (1 : Int32)) rfl (q := 29) rfl ?_
    refine Jvm.OwnW.aloadN O9 dt_29 rfl rfl (q := 30) rfl ?_
    refine Jvm.OwnW.getF O9 dt_30 (host := "") (Or.inl (hw _ (List.mem_of_getElem? (i := 23) rfl))) Via.refl F_bytes_a1 (q := 33) rfl ?_
    intro T10 O10
    refine Jvm.OwnW.callI O10 (y := (⟨"java/math/BigInteger", "<init>", "(I[B)V"⟩ : MethodName)) (a := nb9) (argsL := [(.int (1 : Int32)), (.ref ab)]) (rest := [(.ref nb9)]) dt_33 rfl (hw _ (List.mem_of_getElem? (i := 44) rfl)) (hw _ (List.mem_of_getElem? (i := 45) rfl)) (hw _ (List.mem_of_getElem? (i := 43) rfl)) (hw _ (List.mem_of_getElem? (i := 46) rfl)) (by decide) (rm_c l Z a0 hw nb9 ab zn zo zm n V h9 E_nb9 F_mag_nb9 F_signum_nb9 V_ab S_Z F_mag_zo V_zm hzn hn10 hV hV64 (Ne.symm ne_ab_nb9) (Ne.symm ne_zm_nb9) (Ne.symm ne_zo_nb9)) rfl pd_6 rfl (hst := rfl) (W := 1) (Nat.le_of_eq rfl) (by decide) (by decide) (c2 := 2) (s2 := 8) rfl rfl (by decide) (by decide) (allS (Or.inr N9) all0) (q := 36) rfl ?_
    intro v11 T11 h11 O11 K11 q11
    obtain ⟨rfl, B_r⟩ := q11
    have S_Z := staKeep1 S_Z K11 E_nb9
    have E_a1 := E_a1.keep K11
    have F_bytes_a1 := F_bytes_a1.keep K11 (ninS ne_a1_nb9 nin0)
    have F_index_a1 := F_index_a1.keep K11 (ninS ne_a1_nb9 nin0)
    have F_pending_a1 := F_pending_a1.keep K11 (ninS ne_a1_nb9 nin0)
    have F_pendingBits_a1 := F_pendingBits_a1.keep K11 (ninS ne_a1_nb9 nin0)
    have V_ab := V_ab.keep K11 (ninS ne_ab_nb9 nin0)
    have F_mag_zo := F_mag_zo.keep K11 (ninS ne_zo_nb9 nin0)
    have V_zm := V_zm.keep K11 (ninS ne_zm_nb9 nin0)
    have E_nb9 := E_nb9.keep K11
    show Go C _ _ _ _ (T11.setTop (mkF C.m 36 #[.val (.ref a1)] [(.ref nb9)]))
    exact Jvm.OwnW.retA O11 dt_36 rfl rfl (by first | rfl | (cases ((.ref nb9)) <;> rfl)) (by decide) (by decide) ⟨nb9, rfl, hs0 ▸ N9, B_r⟩
theorem dj_0 : decode jdk_2097_method_30_code 0 = .ok (.aload_n 0, 1) := by decide +kernel
theorem dj_1 : decode jdk_2097_method_30_code 1 = .ok (.invokespecial 3, 3) := by decide +kernel
theorem dj_4 : decode jdk_2097_method_30_code 4 = .ok (.lload_n 1, 1) := by decide +kernel
theorem dj_5 : decode jdk_2097_method_30_code 5 = .ok (.lconst 0, 1) := by decide +kernel
theorem dj_6 : decode jdk_2097_method_30_code 6 = .ok (.lcmp, 1) := by decide +kernel
theorem dj_7 : decode jdk_2097_method_30_code 7 = .ok (.ifCond .ge 14, 3) := by decide +kernel
theorem dj_21 : decode jdk_2097_method_30_code 21 = .ok (.aload_n 0, 1) := by decide +kernel
theorem dj_22 : decode jdk_2097_method_30_code 22 = .ok (.iconst 1, 1) := by decide +kernel
theorem dj_23 : decode jdk_2097_method_30_code 23 = .ok (.putfield 32, 3) := by decide +kernel
theorem dj_26 : decode jdk_2097_method_30_code 26 = .ok (.lload_n 1, 1) := by decide +kernel
theorem dj_27 : decode jdk_2097_method_30_code 27 = .ok (.bipush 32, 2) := by decide +kernel
theorem dj_29 : decode jdk_2097_method_30_code 29 = .ok (.lushr, 1) := by decide +kernel
theorem dj_30 : decode jdk_2097_method_30_code 30 = .ok (.l2i, 1) := by decide +kernel
theorem dj_31 : decode jdk_2097_method_30_code 31 = .ok (.istore_n 3, 1) := by decide +kernel
theorem dj_32 : decode jdk_2097_method_30_code 32 = .ok (.iload_n 3, 1) := by decide +kernel
theorem dj_33 : decode jdk_2097_method_30_code 33 = .ok (.ifCond .ne 21, 3) := by decide +kernel
theorem dj_36 : decode jdk_2097_method_30_code 36 = .ok (.aload_n 0, 1) := by decide +kernel
theorem dj_37 : decode jdk_2097_method_30_code 37 = .ok (.iconst 1, 1) := by decide +kernel
theorem dj_38 : decode jdk_2097_method_30_code 38 = .ok (.newarray .int, 2) := by decide +kernel
theorem dj_40 : decode jdk_2097_method_30_code 40 = .ok (.putfield 28, 3) := by decide +kernel
theorem dj_43 : decode jdk_2097_method_30_code 43 = .ok (.aload_n 0, 1) := by decide +kernel
theorem dj_44 : decode jdk_2097_method_30_code 44 = .ok (.getfield 28, 3) := by decide +kernel
theorem dj_47 : decode jdk_2097_method_30_code 47 = .ok (.iconst 0, 1) := by decide +kernel
theorem dj_48 : decode jdk_2097_method_30_code 48 = .ok (.lload_n 1, 1) := by decide +kernel
theorem dj_49 : decode jdk_2097_method_30_code 49 = .ok (.l2i, 1) := by decide +kernel
theorem dj_50 : decode jdk_2097_method_30_code 50 = .ok (.iastore, 1) := by decide +kernel
theorem dj_51 : decode jdk_2097_method_30_code 51 = .ok (.goto 25, 3) := by decide +kernel
theorem dj_54 : decode jdk_2097_method_30_code 54 = .ok (.aload_n 0, 1) := by decide +kernel
theorem dj_55 : decode jdk_2097_method_30_code 55 = .ok (.iconst 2, 1) := by decide +kernel
theorem dj_56 : decode jdk_2097_method_30_code 56 = .ok (.newarray .int, 2) := by decide +kernel
theorem dj_58 : decode jdk_2097_method_30_code 58 = .ok (.putfield 28, 3) := by decide +kernel
theorem dj_61 : decode jdk_2097_method_30_code 61 = .ok (.aload_n 0, 1) := by decide +kernel
theorem dj_62 : decode jdk_2097_method_30_code 62 = .ok (.getfield 28, 3) := by decide +kernel
theorem dj_65 : decode jdk_2097_method_30_code 65 = .ok (.iconst 0, 1) := by decide +kernel
theorem dj_66 : decode jdk_2097_method_30_code 66 = .ok (.iload_n 3, 1) := by decide +kernel
theorem dj_67 : decode jdk_2097_method_30_code 67 = .ok (.iastore, 1) := by decide +kernel
theorem dj_68 : decode jdk_2097_method_30_code 68 = .ok (.aload_n 0, 1) := by decide +kernel
theorem dj_69 : decode jdk_2097_method_30_code 69 = .ok (.getfield 28, 3) := by decide +kernel
theorem dj_72 : decode jdk_2097_method_30_code 72 = .ok (.iconst 1, 1) := by decide +kernel
theorem dj_73 : decode jdk_2097_method_30_code 73 = .ok (.lload_n 1, 1) := by decide +kernel
theorem dj_74 : decode jdk_2097_method_30_code 74 = .ok (.l2i, 1) := by decide +kernel
theorem dj_75 : decode jdk_2097_method_30_code 75 = .ok (.iastore, 1) := by decide +kernel
theorem dj_76 : decode jdk_2097_method_30_code 76 = .ok (.return_, 1) := by decide +kernel
theorem ef_j (a1 : Addr) (p1 : Int64) (m : MethodId) : entryFrame m #[(.ref a1), (.long p1)] 4 = mkF m 0 #[.val (.ref a1), .val (.long p1), .second, .unset] [] := by first | (simp [entryFrame, mkF, argsToLocals, Value.category, maxLocals]; done) | rfl
theorem pn_j : plainFor (⟨"java/math/BigInteger", "<init>", "(J)V"⟩ : MethodName) = true := by first | exact plainFor_of_name (by first | (simp [plainName, overriddenIn]; done) | decide +kernel) | decide +kernel
set_option maxRecDepth 65536 in
set_option maxHeartbeats 40000000 in
theorem rm_j (l : Launch) (Z : State) (a0 : Array Value) (hw : ∀ d ∈ tables_1, d.before a0 Z = true) (a1 : Addr) (p1 : Int64) (V : Nat) (h0 : Heap) (E_a1 : Exa Z h0 a1 "java/math/BigInteger") (F_mag_a1 : Fld Z h0 a1 "java/math/BigInteger" "mag" "[I" .null) (F_signum_a1 : Fld Z h0 a1 "java/math/BigInteger" "signum" "I" (.int (0 : Int32))) (hp : p1.toInt = (V : Int)) (hV0 : 0 < V) :
    Met l Z (⟨"java/math/BigInteger", "<init>", "(J)V"⟩ : MethodName) jdk_2097_method_30_code 4 none [] ({ frames := 2, cells := 1, slots := 2, locals := 24 } : Room) #[(.ref a1), (.long p1)] [a1] h0 (fun v h => v = none ∧ own_big Z h a1 V) := by
  refine Met.mk pn_j (ef_j a1 p1) ?_
  intro C T hs0 O
  show Go C [a1] (fun v h => v = none ∧ own_big Z h a1 V) 1 2 (T.setTop (mkF C.m 0 #[.val (.ref a1), .val (.long p1), .second, .unset] []))
  refine Jvm.OwnW.aloadN O dj_0 rfl rfl (q := 1) rfl ?_
  refine Jvm.OwnW.callI0 O (y := (⟨"java/lang/Number", "<init>", "()V"⟩ : MethodName)) (a := a1) (argsL := []) (rest := []) dj_1 rfl (hw _ (List.mem_of_getElem? (i := 51) rfl)) (hw _ (List.mem_of_getElem? (i := 52) rfl)) (hw _ (List.mem_of_getElem? (i := 55) rfl)) (hw _ (List.mem_of_getElem? (i := 56) rfl)) (by decide) (rm_u l Z a0 hw a1 h0) rfl pd_2 rfl (hst := rfl) (W := 0) (Nat.le_of_eq rfl) (by decide) (by decide) (c2 := 0) (s2 := 0) rfl rfl (by decide) (by decide) rfl rfl (q := 4) rfl ?_
  intro v1 T1 O1 q1
  obtain rfl := q1
  show Go C _ _ _ _ (T1.setTop (mkF C.m 4 #[.val (.ref a1), .val (.long p1), .second, .unset] []))
  refine Jvm.OwnW.lloadN O1 dj_4 rfl (q := 5) rfl ?_
  refine Jvm.OwnW.lconst O1 dj_5 (r := (0 : Int64)) rfl (q := 6) rfl ?_
  refine Jvm.OwnW.lcmp O1 dj_6 rfl (q := 7) rfl ?_
  refine Jvm.OwnW.ifYes O1 dj_7 (fltL (show ¬ (p1 < (0 : Int64)) from nlt64 (by rw [hp]; show (0 : Int) ≤ _; omega))).2.1 (by decide) (q := 21) rfl ?_
  refine Jvm.OwnW.aloadN O1 dj_21 rfl rfl (q := 22) rfl ?_
  refine Jvm.OwnW.iconst O1 dj_22 (r := (1 : Int32)) rfl (q := 23) rfl ?_
  refine Jvm.OwnW.putF O1 dj_23 (host := "") (Or.inl (hw _ (List.mem_of_getElem? (i := 76) rfl))) Via.refl F_signum_a1 E_a1 (Or.inr ⟨hw _ (List.mem_of_getElem? (i := 77) rfl), rfl, rfl⟩) (hw _ (List.mem_of_getElem? (i := 42) rfl)) (ty := .int) (by decide) rfl rfl (Or.inl (List.mem_cons_self ..)) (q := 26) rfl ?_
  intro T2 h2 O2 W2
  have E_a1 := E_a1.wr W2
  have F_mag_a1 := F_mag_a1.other W2 (Or.inr (slot_ne (Or.inr (hw _ (List.mem_of_getElem? (i := 75) rfl))) (Or.inr (hw _ (List.mem_of_getElem? (i := 77) rfl))) (by decide) (t := (.array .int)) (t' := .int) (by decide) (by decide)))
  have F_signum_a1 := F_signum_a1.same W2
  refine Jvm.OwnW.lloadN O2 dj_26 rfl (q := 27) rfl ?_
  refine Jvm.OwnW.bipush O2 dj_27 (r := (32 : Int32)) rfl (q := 29) rfl ?_
  refine Jvm.OwnW.lushr O2 dj_29 rfl (q := 30) rfl ?_
  obtain ⟨hi, hhi⟩ : ∃ zz_, ((p1.toUInt64 >>> ((32 : Int32) &&& 0x3f).toInt64.toUInt64).toInt64).toInt32 = zz_ := ⟨_, rfl⟩
  refine Jvm.OwnW.l2i O2 dj_30 hhi (q := 31) rfl ?_
  have hhiv := c_l2i ((p1.toUInt64 >>> ((32 : Int32) &&& 0x3f).toInt64.toUInt64).toInt64)
  have hhiw := c_lushr p1 32 32 (by decide) (by decide)
  have hhir := rng32 hi
  rw [hhi] at hhiv
  have hlov := c_l2i p1
  have hp64 := rng64 p1
  refine Jvm.OwnW.istoreN O2 dj_31 (L' := #[.val (.ref a1), .val (.long p1), .second, .val (.int hi)]) rfl (q := 32) rfl ?_
  refine Jvm.OwnW.iloadN O2 dj_32 rfl (q := 33) rfl ?_
  by_cases hc33 : hi = (0 : Int32)
  · refine Jvm.OwnW.ifNo O2 dj_33 (teq0 hc33).2 (q := 36) rfl ?_
    have hV32 : V < 4294967296 := by rw [hc33] at hhiv; have : (0 : Int32).toInt = 0 := rfl; omega
    refine Jvm.OwnW.aloadN O2 dj_36 rfl rfl (q := 37) rfl ?_
    refine Jvm.OwnW.iconst O2 dj_37 (r := (1 : Int32)) rfl (q := 38) rfl ?_
    refine Jvm.OwnW.newA' O2 dj_38 (ty := .int) rfl (hw _ (List.mem_of_getElem? (i := 88) rfl)) (N := 1) rfl (cap := 1) (by decide) (by decide) (c2 := 1) (s2 := 1) rfl rfl (by decide) (by decide) (q := 40) rfl ?_
    intro nb3 T3 h3 g3 N3 O3 X3 V_nb3
    have ne_a1_nb3 : a1 ≠ nb3 := Nat.ne_of_lt (Nat.lt_of_lt_of_le E_a1.lt (Nat.le_of_eq g3.symm))
    have E_a1 := E_a1.ext X3
    have F_mag_a1 := F_mag_a1.ext X3
    have F_signum_a1 := F_signum_a1.ext X3
    have V_nb3 : Ar Z h3 nb3 .int 1 (lf [(.int (0 : Int32))]) := V_nb3.congr (lf_rep 1 _)
    refine Jvm.OwnW.putF O3 dj_40 (host := "") (Or.inl (hw _ (List.mem_of_getElem? (i := 74) rfl))) Via.refl F_mag_a1 E_a1 (Or.inr ⟨hw _ (List.mem_of_getElem? (i := 75) rfl), rfl, rfl⟩) (hw _ (List.mem_of_getElem? (i := 42) rfl)) (ty := (.array .int)) (by decide) rfl rfl (Or.inl (List.mem_cons_self ..)) (q := 43) rfl ?_
    intro T4 h4 O4 W4
    have E_a1 := E_a1.wr W4
    have F_mag_a1 := F_mag_a1.same W4
    have F_signum_a1 := F_signum_a1.other W4 (Or.inr (slot_ne (Or.inr (hw _ (List.mem_of_getElem? (i := 77) rfl))) (Or.inr (hw _ (List.mem_of_getElem? (i := 75) rfl))) (by decide) (t := .int) (t' := (.array .int)) (by decide) (by decide)))
    have V_nb3 := V_nb3.other W4 (Ne.symm ne_a1_nb3)
    refine Jvm.OwnW.aloadN O4 dj_43 rfl rfl (q := 44) rfl ?_
    refine Jvm.OwnW.getF O4 dj_44 (host := "") (Or.inl (hw _ (List.mem_of_getElem? (i := 74) rfl))) Via.refl F_mag_a1 (q := 47) rfl ?_
    intro T5 O5
    refine Jvm.OwnW.iconst O5 dj_47 (r := (0 : Int32)) rfl (q := 48) rfl ?_
    refine Jvm.OwnW.lloadN O5 dj_48 rfl (q := 49) rfl ?_
    refine Jvm.OwnW.l2i O5 dj_49 rfl (q := 50) rfl ?_
    rw [show p1.toInt32 = own_i V from own_iE (by omega)]
    refine Jvm.OwnW.iasA O5 dj_50 V_nb3 (i := 0) rfl (by decide) (Or.inr N3) (q := 51) rfl ?_
    intro T6 h6 O6 W6
    have V_nb3 : Ar Z h6 nb3 .int 1 (lf [(.int (own_i V))]) := V_nb3.setL W6 (by decide) (Nat.le_of_ble_eq_true rfl)
    have E_a1 := E_a1.wr W6
    have F_mag_a1 := F_mag_a1.other W6 (Or.inl ne_a1_nb3)
    have F_signum_a1 := F_signum_a1.other W6 (Or.inl ne_a1_nb3)
    refine Jvm.OwnW.goto O6 dj_51 (by decide) (q := 76) rfl ?_
    exact Jvm.OwnW.ret0 O6 dj_76 (by decide) (by decide) ⟨rfl, E_a1, nb3, F_mag_a1, (by rw [if_neg (by omega)]; exact F_signum_a1), Or.inr (Or.inl ⟨hV0, hV32, V_nb3⟩)⟩
  · refine Jvm.OwnW.ifYes O2 dj_33 (feq0 hc33).2 (by decide) (q := 54) rfl ?_
    obtain rfl : hi = own_i (V / 4294967296) := own_iE (by omega)
    refine Jvm.OwnW.aloadN O2 dj_54 rfl rfl (q := 55) rfl ?_
    refine Jvm.OwnW.iconst O2 dj_55 (r := (2 : Int32)) rfl (q := 56) rfl ?_
    refine Jvm.OwnW.newA' O2 dj_56 (ty := .int) rfl (hw _ (List.mem_of_getElem? (i := 88) rfl)) (N := 2) rfl (cap := 2) (by decide) (by decide) (c2 := 1) (s2 := 2) rfl rfl (by decide) (by decide) (q := 58) rfl ?_
    intro nb7 T7 h7 g7 N7 O7 X7 V_nb7
    have ne_a1_nb7 : a1 ≠ nb7 := Nat.ne_of_lt (Nat.lt_of_lt_of_le E_a1.lt (Nat.le_of_eq g7.symm))
    have E_a1 := E_a1.ext X7
    have F_mag_a1 := F_mag_a1.ext X7
    have F_signum_a1 := F_signum_a1.ext X7
    have V_nb7 : Ar Z h7 nb7 .int 2 (lf [(.int (0 : Int32)), (.int (0 : Int32))]) := V_nb7.congr (lf_rep 2 _)
    refine Jvm.OwnW.putF O7 dj_58 (host := "") (Or.inl (hw _ (List.mem_of_getElem? (i := 74) rfl))) Via.refl F_mag_a1 E_a1 (Or.inr ⟨hw _ (List.mem_of_getElem? (i := 75) rfl), rfl, rfl⟩) (hw _ (List.mem_of_getElem? (i := 42) rfl)) (ty := (.array .int)) (by decide) rfl rfl (Or.inl (List.mem_cons_self ..)) (q := 61) rfl ?_
    intro T8 h8 O8 W8
    have E_a1 := E_a1.wr W8
    have F_mag_a1 := F_mag_a1.same W8
    have F_signum_a1 := F_signum_a1.other W8 (Or.inr (slot_ne (Or.inr (hw _ (List.mem_of_getElem? (i := 77) rfl))) (Or.inr (hw _ (List.mem_of_getElem? (i := 75) rfl))) (by decide) (t := .int) (t' := (.array .int)) (by decide) (by decide)))
    have V_nb7 := V_nb7.other W8 (Ne.symm ne_a1_nb7)
    refine Jvm.OwnW.aloadN O8 dj_61 rfl rfl (q := 62) rfl ?_
    refine Jvm.OwnW.getF O8 dj_62 (host := "") (Or.inl (hw _ (List.mem_of_getElem? (i := 74) rfl))) Via.refl F_mag_a1 (q := 65) rfl ?_
    intro T9 O9
    refine Jvm.OwnW.iconst O9 dj_65 (r := (0 : Int32)) rfl (q := 66) rfl ?_
    refine Jvm.OwnW.iloadN O9 dj_66 rfl (q := 67) rfl ?_
    refine Jvm.OwnW.iasA O9 dj_67 V_nb7 (i := 0) rfl (by decide) (Or.inr N7) (q := 68) rfl ?_
    intro T10 h10 O10 W10
    have V_nb7 : Ar Z h10 nb7 .int 2 (lf [(.int (own_i (V / 4294967296))), (.int (0 : Int32))]) := V_nb7.setL W10 (by decide) (Nat.le_of_ble_eq_true rfl)
    have E_a1 := E_a1.wr W10
    have F_mag_a1 := F_mag_a1.other W10 (Or.inl ne_a1_nb7)
    have F_signum_a1 := F_signum_a1.other W10 (Or.inl ne_a1_nb7)
    refine Jvm.OwnW.aloadN O10 dj_68 rfl rfl (q := 69) rfl ?_
    refine Jvm.OwnW.getF O10 dj_69 (host := "") (Or.inl (hw _ (List.mem_of_getElem? (i := 74) rfl))) Via.refl F_mag_a1 (q := 72) rfl ?_
    intro T11 O11
    refine Jvm.OwnW.iconst O11 dj_72 (r := (1 : Int32)) rfl (q := 73) rfl ?_
    refine Jvm.OwnW.lloadN O11 dj_73 rfl (q := 74) rfl ?_
    refine Jvm.OwnW.l2i O11 dj_74 rfl (q := 75) rfl ?_
    rw [show p1.toInt32 = own_i V from own_iE (by omega)]
    refine Jvm.OwnW.iasA O11 dj_75 V_nb7 (i := 1) rfl (by decide) (Or.inr N7) (q := 76) rfl ?_
    intro T12 h12 O12 W12
    have V_nb7 : Ar Z h12 nb7 .int 2 (lf [(.int (own_i (V / 4294967296))), (.int (own_i V))]) := V_nb7.setL W12 (by decide) (Nat.le_of_ble_eq_true rfl)
    have E_a1 := E_a1.wr W12
    have F_mag_a1 := F_mag_a1.other W12 (Or.inl ne_a1_nb7)
    have F_signum_a1 := F_signum_a1.other W12 (Or.inl ne_a1_nb7)
    exact Jvm.OwnW.ret0 O12 dj_76 (by decide) (by decide) ⟨rfl, E_a1, nb7, F_mag_a1, (by rw [if_neg (by omega)]; exact F_signum_a1), Or.inr (Or.inr ⟨by
          refine Nat.not_lt.mp fun q => hc33 (eq32 ?_)
          have z0 : (0 : Int32).toInt = 0 := rfl
          omega, by omega, V_nb7⟩)⟩
theorem dv0_0 : decode jdk_2097_method_29_code 0 = .ok (.lload_n 0, 1) := by decide +kernel
theorem dv0_1 : decode jdk_2097_method_29_code 1 = .ok (.lconst 0, 1) := by decide +kernel
theorem dv0_2 : decode jdk_2097_method_29_code 2 = .ok (.lcmp, 1) := by decide +kernel
theorem dv0_3 : decode jdk_2097_method_29_code 3 = .ok (.ifCond .ne 7, 3) := by decide +kernel
theorem dv0_6 : decode jdk_2097_method_29_code 6 = .ok (.getstatic 22, 3) := by decide +kernel
theorem dv0_9 : decode jdk_2097_method_29_code 9 = .ok (.areturn, 1) := by decide +kernel
theorem ef_v0 (p0 : Int64) (zo : Addr) (m : MethodId) : entryFrame m #[(.long p0)] 2 = mkF m 0 #[.val (.long p0), .second] [] := by first | (simp [entryFrame, mkF, argsToLocals, Value.category, maxLocals]; done) | rfl
theorem pn_v0 : plainFor (⟨"java/math/BigInteger", "valueOf", "(J)Ljava/math/BigInteger;"⟩ : MethodName) = true := by first | exact plainFor_of_name (by first | (simp [plainName, overriddenIn]; done) | decide +kernel) | decide +kernel
set_option maxRecDepth 65536 in
set_option maxHeartbeats 40000000 in
theorem rm_v0 (l : Launch) (Z : State) (a0 : Array Value) (hw : ∀ d ∈ tables_1, d.before a0 Z = true) (p0 : Int64) (zo : Addr) (h0 : Heap) (S_Z : Sta Z h0 "java/math/BigInteger" "ZERO" "Ljava/math/BigInteger;" (.ref zo)) (hp : p0 = 0) :
    Met l Z (⟨"java/math/BigInteger", "valueOf", "(J)Ljava/math/BigInteger;"⟩ : MethodName) jdk_2097_method_29_code 2 (some (.object "java/math/BigInteger")) [] ({ frames := 0, cells := 0, slots := 0, locals := 0 } : Room) #[(.long p0)] [] h0 (fun v h => v = some (.ref zo)) := by
  refine Met.mk pn_v0 (ef_v0 p0 zo) ?_
  intro C T hs0 O
  show Go C [] (fun v h => v = some (.ref zo)) 0 0 (T.setTop (mkF C.m 0 #[.val (.long p0), .second] []))
  refine Jvm.OwnW.lloadN O dv0_0 rfl (q := 1) rfl ?_
  refine Jvm.OwnW.lconst O dv0_1 (r := (0 : Int64)) rfl (q := 2) rfl ?_
  refine Jvm.OwnW.lcmp O dv0_2 rfl (q := 3) rfl ?_
  refine Jvm.OwnW.ifNo O dv0_3 (teqL (show p0 = (0 : Int64) from hp)).2 (q := 6) rfl ?_
  refine Jvm.OwnW.getS O dv0_6 (hw _ (List.mem_of_getElem? (i := 73) rfl)) S_Z (q := 9) rfl ?_
  intro T1 O1
  exact Jvm.OwnW.retA O1 dv0_9 rfl rfl (by first | rfl | (cases ((.ref zo)) <;> rfl)) (by decide) (by decide) rfl
theorem dvp_0 : decode jdk_2097_method_29_code 0 = .ok (.lload_n 0, 1) := by decide +kernel
theorem dvp_1 : decode jdk_2097_method_29_code 1 = .ok (.lconst 0, 1) := by decide +kernel
theorem dvp_2 : decode jdk_2097_method_29_code 2 = .ok (.lcmp, 1) := by decide +kernel
theorem dvp_3 : decode jdk_2097_method_29_code 3 = .ok (.ifCond .ne 7, 3) := by decide +kernel
theorem dvp_10 : decode jdk_2097_method_29_code 10 = .ok (.lload_n 0, 1) := by decide +kernel
theorem dvp_11 : decode jdk_2097_method_29_code 11 = .ok (.lconst 0, 1) := by decide +kernel
theorem dvp_12 : decode jdk_2097_method_29_code 12 = .ok (.lcmp, 1) := by decide +kernel
theorem dvp_13 : decode jdk_2097_method_29_code 13 = .ok (.ifCond .le 18, 3) := by decide +kernel
theorem dvp_16 : decode jdk_2097_method_29_code 16 = .ok (.lload_n 0, 1) := by decide +kernel
theorem dvp_17 : decode jdk_2097_method_29_code 17 = .ok (.ldc2_w 345, 3) := by decide +kernel
theorem dvp_20 : decode jdk_2097_method_29_code 20 = .ok (.lcmp, 1) := by decide +kernel
theorem dvp_21 : decode jdk_2097_method_29_code 21 = .ok (.ifCond .gt 10, 3) := by decide +kernel
theorem dvp_24 : decode jdk_2097_method_29_code 24 = .ok (.getstatic 347, 3) := by decide +kernel
theorem dvp_27 : decode jdk_2097_method_29_code 27 = .ok (.lload_n 0, 1) := by decide +kernel
theorem dvp_28 : decode jdk_2097_method_29_code 28 = .ok (.l2i, 1) := by decide +kernel
theorem dvp_29 : decode jdk_2097_method_29_code 29 = .ok (.aaload, 1) := by decide +kernel
theorem dvp_30 : decode jdk_2097_method_29_code 30 = .ok (.areturn, 1) := by decide +kernel
theorem ef_vp (p0 : Int64) (pc o : Addr) (m : MethodId) : entryFrame m #[(.long p0)] 2 = mkF m 0 #[.val (.long p0), .second] [] := by first | (simp [entryFrame, mkF, argsToLocals, Value.category, maxLocals]; done) | rfl
theorem pn_vp : plainFor (⟨"java/math/BigInteger", "valueOf", "(J)Ljava/math/BigInteger;"⟩ : MethodName) = true := by first | exact plainFor_of_name (by first | (simp [plainName, overriddenIn]; done) | decide +kernel) | decide +kernel
set_option maxRecDepth 65536 in
set_option maxHeartbeats 40000000 in
theorem rm_vp (l : Launch) (Z : State) (a0 : Array Value) (hw : ∀ d ∈ tables_1, d.before a0 Z = true) (p0 : Int64) (pc o : Addr) (fP : Nat → Value) (V : Nat) (h0 : Heap) (S_P : Sta Z h0 "java/math/BigInteger" "posConst" "[Ljava/math/BigInteger;" (.ref pc)) (V_pc : Ar Z h0 pc (.object "java/math/BigInteger") 17 fP) (hfo : fP V = .ref o) (hp : p0.toInt = (V : Int)) (hV0 : 0 < V) (hV16 : V ≤ 16) :
    Met l Z (⟨"java/math/BigInteger", "valueOf", "(J)Ljava/math/BigInteger;"⟩ : MethodName) jdk_2097_method_29_code 2 (some (.object "java/math/BigInteger")) [] ({ frames := 0, cells := 0, slots := 0, locals := 0 } : Room) #[(.long p0)] [] h0 (fun v h => v = some (.ref o)) := by
  refine Met.mk pn_vp (ef_vp p0 pc o) ?_
  intro C T hs0 O
  show Go C [] (fun v h => v = some (.ref o)) 0 0 (T.setTop (mkF C.m 0 #[.val (.long p0), .second] []))
  refine Jvm.OwnW.lloadN O dvp_0 rfl (q := 1) rfl ?_
  refine Jvm.OwnW.lconst O dvp_1 (r := (0 : Int64)) rfl (q := 2) rfl ?_
  refine Jvm.OwnW.lcmp O dvp_2 rfl (q := 3) rfl ?_
  refine Jvm.OwnW.ifYes O dvp_3 (feqL (show ¬ (p0 = (0 : Int64)) from ne64 (by rw [hp]; show _ ≠ (0 : Int); omega))).2 (by decide) (q := 10) rfl ?_
  refine Jvm.OwnW.lloadN O dvp_10 rfl (q := 11) rfl ?_
  refine Jvm.OwnW.lconst O dvp_11 (r := (0 : Int64)) rfl (q := 12) rfl ?_
  refine Jvm.OwnW.lcmp O dvp_12 rfl (q := 13) rfl ?_
  refine Jvm.OwnW.ifNo O dvp_13 (tltL (show (0 : Int64) < p0 from lt64 (by rw [hp]; show (0 : Int) < _; omega))).2.2.2 (q := 16) rfl ?_
  refine Jvm.OwnW.lloadN O dvp_16 rfl (q := 17) rfl ?_
  refine Jvm.OwnW.ldcL O dvp_17 (hw _ (List.mem_of_getElem? (i := 89) rfl)) (q := 20) rfl ?_
  refine Jvm.OwnW.lcmp O dvp_20 rfl (q := 21) rfl ?_
  refine Jvm.OwnW.ifNo O dvp_21 (fltL (show ¬ ((16 : Int64) < p0) from nlt64 (by rw [hp]; show _ ≤ (16 : Int); omega))).2.2.1 (q := 24) rfl ?_
  refine Jvm.OwnW.getS O dvp_24 (hw _ (List.mem_of_getElem? (i := 90) rfl)) S_P (q := 27) rfl ?_
  intro T1 O1
  refine Jvm.OwnW.lloadN O1 dvp_27 rfl (q := 28) rfl ?_
  refine Jvm.OwnW.l2i O1 dvp_28 rfl (q := 29) rfl ?_
  refine Jvm.OwnW.aalA O1 dvp_29 V_pc rfl (i := V) (by have q := c_l2i p0; have q2 := rng32 p0.toInt32; omega) (by omega) (v := (.ref o)) hfo (q := 30) rfl ?_
  exact Jvm.OwnW.retA O1 dvp_30 rfl rfl (by first | rfl | (cases ((.ref o)) <;> rfl)) (by decide) (by decide) rfl
theorem pd_7 : parseMethodDescriptor "(J)V" = some ⟨[.long], none⟩ := by decide +kernel
theorem dvn_0 : decode jdk_2097_method_29_code 0 = .ok (.lload_n 0, 1) := by decide +kernel
theorem dvn_1 : decode jdk_2097_method_29_code 1 = .ok (.lconst 0, 1) := by decide +kernel
theorem dvn_2 : decode jdk_2097_method_29_code 2 = .ok (.lcmp, 1) := by decide +kernel
theorem dvn_3 : decode jdk_2097_method_29_code 3 = .ok (.ifCond .ne 7, 3) := by decide +kernel
theorem dvn_10 : decode jdk_2097_method_29_code 10 = .ok (.lload_n 0, 1) := by decide +kernel
theorem dvn_11 : decode jdk_2097_method_29_code 11 = .ok (.lconst 0, 1) := by decide +kernel
theorem dvn_12 : decode jdk_2097_method_29_code 12 = .ok (.lcmp, 1) := by decide +kernel
theorem dvn_13 : decode jdk_2097_method_29_code 13 = .ok (.ifCond .le 18, 3) := by decide +kernel
theorem dvn_16 : decode jdk_2097_method_29_code 16 = .ok (.lload_n 0, 1) := by decide +kernel
theorem dvn_17 : decode jdk_2097_method_29_code 17 = .ok (.ldc2_w 345, 3) := by decide +kernel
theorem dvn_20 : decode jdk_2097_method_29_code 20 = .ok (.lcmp, 1) := by decide +kernel
theorem dvn_21 : decode jdk_2097_method_29_code 21 = .ok (.ifCond .gt 10, 3) := by decide +kernel
theorem dvn_31 : decode jdk_2097_method_29_code 31 = .ok (.lload_n 0, 1) := by decide +kernel
theorem dvn_32 : decode jdk_2097_method_29_code 32 = .ok (.lconst 0, 1) := by decide +kernel
theorem dvn_33 : decode jdk_2097_method_29_code 33 = .ok (.lcmp, 1) := by decide +kernel
theorem dvn_34 : decode jdk_2097_method_29_code 34 = .ok (.ifCond .ge 19, 3) := by decide +kernel
theorem dvn_53 : decode jdk_2097_method_29_code 53 = .ok (.new 23, 3) := by decide +kernel
theorem dvn_56 : decode jdk_2097_method_29_code 56 = .ok (.dup, 1) := by decide +kernel
theorem dvn_57 : decode jdk_2097_method_29_code 57 = .ok (.lload_n 0, 1) := by decide +kernel
theorem dvn_58 : decode jdk_2097_method_29_code 58 = .ok (.invokespecial 356, 3) := by decide +kernel
theorem dvn_61 : decode jdk_2097_method_29_code 61 = .ok (.areturn, 1) := by decide +kernel
theorem ef_vn (p0 : Int64) (m : MethodId) : entryFrame m #[(.long p0)] 2 = mkF m 0 #[.val (.long p0), .second] [] := by first | (simp [entryFrame, mkF, argsToLocals, Value.category, maxLocals]; done) | rfl
theorem pn_vn : plainFor (⟨"java/math/BigInteger", "valueOf", "(J)Ljava/math/BigInteger;"⟩ : MethodName) = true := by first | exact plainFor_of_name (by first | (simp [plainName, overriddenIn]; done) | decide +kernel) | decide +kernel
set_option maxRecDepth 65536 in
set_option maxHeartbeats 40000000 in
theorem rm_vn (l : Launch) (Z : State) (a0 : Array Value) (hw : ∀ d ∈ tables_1, d.before a0 Z = true) (p0 : Int64) (V : Nat) (h0 : Heap) (hp : p0.toInt = (V : Int)) (hV0 : 0 < V) (hV16 : 16 < V) :
    Met l Z (⟨"java/math/BigInteger", "valueOf", "(J)Ljava/math/BigInteger;"⟩ : MethodName) jdk_2097_method_29_code 2 (some (.object "java/math/BigInteger")) [] ({ frames := 3, cells := 2, slots := 8, locals := 40 } : Room) #[(.long p0)] [] h0 (fun v h => ∃ r, v = some (.ref r) ∧ h0.size ≤ r ∧ own_big Z h r V) := by
  refine Met.mk pn_vn (ef_vn p0) ?_
  intro C T hs0 O
  show Go C [] (fun v h => ∃ r, v = some (.ref r) ∧ h0.size ≤ r ∧ own_big Z h r V) 2 8 (T.setTop (mkF C.m 0 #[.val (.long p0), .second] []))
  refine Jvm.OwnW.lloadN O dvn_0 rfl (q := 1) rfl ?_
  refine Jvm.OwnW.lconst O dvn_1 (r := (0 : Int64)) rfl (q := 2) rfl ?_
  refine Jvm.OwnW.lcmp O dvn_2 rfl (q := 3) rfl ?_
  refine Jvm.OwnW.ifYes O dvn_3 (feqL (show ¬ (p0 = (0 : Int64)) from ne64 (by rw [hp]; show _ ≠ (0 : Int); omega))).2 (by decide) (q := 10) rfl ?_
  refine Jvm.OwnW.lloadN O dvn_10 rfl (q := 11) rfl ?_
  refine Jvm.OwnW.lconst O dvn_11 (r := (0 : Int64)) rfl (q := 12) rfl ?_
  refine Jvm.OwnW.lcmp O dvn_12 rfl (q := 13) rfl ?_
  refine Jvm.OwnW.ifNo O dvn_13 (tltL (show (0 : Int64) < p0 from lt64 (by rw [hp]; show (0 : Int) < _; omega))).2.2.2 (q := 16) rfl ?_
  refine Jvm.OwnW.lloadN O dvn_16 rfl (q := 17) rfl ?_
  refine Jvm.OwnW.ldcL O dvn_17 (hw _ (List.mem_of_getElem? (i := 89) rfl)) (q := 20) rfl ?_
  refine Jvm.OwnW.lcmp O dvn_20 rfl (q := 21) rfl ?_
  refine Jvm.OwnW.ifYes O dvn_21 (tltL (show (16 : Int64) < p0 from lt64 (by rw [hp]; show (16 : Int) < _; omega))).2.2.1 (by decide) (q := 31) rfl ?_
  refine Jvm.OwnW.lloadN O dvn_31 rfl (q := 32) rfl ?_
  refine Jvm.OwnW.lconst O dvn_32 (r := (0 : Int64)) rfl (q := 33) rfl ?_
  refine Jvm.OwnW.lcmp O dvn_33 rfl (q := 34) rfl ?_
  refine Jvm.OwnW.ifYes O dvn_34 (fltL (show ¬ (p0 < (0 : Int64)) from nlt64 (by rw [hp]; show (0 : Int) ≤ _; omega))).2.1 (by decide) (q := 53) rfl ?_
  refine Jvm.OwnW.newO O dvn_53 (hw _ (List.mem_of_getElem? (i := 87) rfl)) (hw _ (List.mem_of_getElem? (i := 42) rfl)) (hw _ (List.mem_of_getElem? (i := 43) rfl)) (c2 := 1) (s2 := 6) rfl rfl (by decide) (by decide) (q := 56) rfl ?_
  intro nb1 T1 h1 g1 N1 O1 X1 E_nb1 D1
  have F_mag_nb1 : Fld Z h1 nb1 "java/math/BigInteger" "mag" "[I" .null := D1 (Or.inr (hw _ (List.mem_of_getElem? (i := 75) rfl))) (ty := (.array .int)) (by decide)
  have F_signum_nb1 : Fld Z h1 nb1 "java/math/BigInteger" "signum" "I" (.int (0 : Int32)) := D1 (Or.inr (hw _ (List.mem_of_getElem? (i := 77) rfl))) (ty := .int) (by decide)
  refine Jvm.OwnW.dup O1 dvn_56 rfl (q := 57) rfl ?_
  refine Jvm.OwnW.lloadN O1 dvn_57 rfl (q := 58) rfl ?_
  refine Jvm.OwnW.callI O1 (y := (⟨"java/math/BigInteger", "<init>", "(J)V"⟩ : MethodName)) (a := nb1) (argsL := [(.long p0)]) (rest := [(.ref nb1)]) dvn_58 rfl (hw _ (List.mem_of_getElem? (i := 91) rfl)) (hw _ (List.mem_of_getElem? (i := 92) rfl)) (hw _ (List.mem_of_getElem? (i := 43) rfl)) (hw _ (List.mem_of_getElem? (i := 93) rfl)) (by decide) (rm_j l Z a0 hw nb1 p0 V h1 E_nb1 F_mag_nb1 F_signum_nb1 hp hV0) rfl pd_7 rfl (hst := rfl) (W := 1) (Nat.le_of_eq rfl) (by decide) (by decide) (c2 := 2) (s2 := 8) rfl rfl (by decide) (by decide) (allS (Or.inr N1) all0) (q := 61) rfl ?_
  intro v2 T2 h2 O2 K2 q2
  obtain ⟨rfl, B_r⟩ := q2
  have E_nb1 := E_nb1.keep K2
  show Go C _ _ _ _ (T2.setTop (mkF C.m 61 #[.val (.long p0), .second] [(.ref nb1)]))
  exact Jvm.OwnW.retA O2 dvn_61 rfl rfl (by first | rfl | (cases ((.ref nb1)) <;> rfl)) (by decide) (by decide) ⟨nb1, rfl, hs0 ▸ N1, B_r⟩
theorem de3_0 : decode jdk_2097_method_124_code 0 = .ok (.aload_n 1, 1) := by decide +kernel
theorem de3_1 : decode jdk_2097_method_124_code 1 = .ok (.aload_n 0, 1) := by decide +kernel
theorem de3_2 : decode jdk_2097_method_124_code 2 = .ok (.if_acmp .ne 5, 3) := by decide +kernel
theorem de3_5 : decode jdk_2097_method_124_code 5 = .ok (.iconst 1, 1) := by decide +kernel
theorem de3_6 : decode jdk_2097_method_124_code 6 = .ok (.ireturn, 1) := by decide +kernel
theorem ef_e3 (a1 : Addr) (m : MethodId) : entryFrame m #[(.ref a1), (.ref a1)] 7 = mkF m 0 #[.val (.ref a1), .val (.ref a1), .unset, .unset, .unset, .unset, .unset] [] := by first | (simp [entryFrame, mkF, argsToLocals, Value.category, maxLocals]; done) | rfl
theorem pn_e3 : plainFor (⟨"java/math/BigInteger", "equals", "(Ljava/lang/Object;)Z"⟩ : MethodName) = true := by first | exact plainFor_of_name (by first | (simp [plainName, overriddenIn]; done) | decide +kernel) | decide +kernel
set_option maxRecDepth 65536 in
set_option maxHeartbeats 40000000 in
theorem rm_e3 (l : Launch) (Z : State) (a0 : Array Value) (hw : ∀ d ∈ tables_1, d.before a0 Z = true) (a1 : Addr) (h0 : Heap)  :
    Met l Z (⟨"java/math/BigInteger", "equals", "(Ljava/lang/Object;)Z"⟩ : MethodName) jdk_2097_method_124_code 7 (some .boolean) [] ({ frames := 0, cells := 0, slots := 0, locals := 0 } : Room) #[(.ref a1), (.ref a1)] [] h0 (fun v h => v = some (.int 1)) := by
  refine Met.mk pn_e3 (ef_e3 a1) ?_
  intro C T hs0 O
  show Go C [] (fun v h => v = some (.int 1)) 0 0 (T.setTop (mkF C.m 0 #[.val (.ref a1), .val (.ref a1), .unset, .unset, .unset, .unset, .unset] []))
  refine Jvm.OwnW.aloadN O de3_0 rfl rfl (q := 1) rfl ?_
  refine Jvm.OwnW.aloadN O de3_1 rfl rfl (q := 2) rfl ?_
  refine Jvm.OwnW.acmp O de3_2 rfl rfl (same := true) (decide_eq_true rfl) (by decide) (q := 5) (by decide) ?_
  refine Jvm.OwnW.iconst O de3_5 (r := (1 : Int32)) rfl (q := 6) rfl ?_
  exact Jvm.OwnW.retB O de3_6 rfl (Or.inr rfl) (by decide) (by decide) rfl
theorem de0_0 : decode jdk_2097_method_124_code 0 = .ok (.aload_n 1, 1) := by decide +kernel
theorem de0_1 : decode jdk_2097_method_124_code 1 = .ok (.aload_n 0, 1) := by decide +kernel
theorem de0_2 : decode jdk_2097_method_124_code 2 = .ok (.if_acmp .ne 5, 3) := by decide +kernel
theorem de0_7 : decode jdk_2097_method_124_code 7 = .ok (.aload_n 1, 1) := by decide +kernel
theorem de0_8 : decode jdk_2097_method_124_code 8 = .ok (.instanceof 23, 3) := by decide +kernel
theorem de0_11 : decode jdk_2097_method_124_code 11 = .ok (.ifCond .eq 11, 3) := by decide +kernel
theorem de0_14 : decode jdk_2097_method_124_code 14 = .ok (.aload_n 1, 1) := by decide +kernel
theorem de0_15 : decode jdk_2097_method_124_code 15 = .ok (.checkcast 23, 3) := by decide +kernel
theorem de0_18 : decode jdk_2097_method_124_code 18 = .ok (.astore_n 2, 1) := by decide +kernel
theorem de0_19 : decode jdk_2097_method_124_code 19 = .ok (.goto 5, 3) := by decide +kernel
theorem de0_24 : decode jdk_2097_method_124_code 24 = .ok (.aload_n 2, 1) := by decide +kernel
theorem de0_25 : decode jdk_2097_method_124_code 25 = .ok (.getfield 32, 3) := by decide +kernel
theorem de0_28 : decode jdk_2097_method_124_code 28 = .ok (.aload_n 0, 1) := by decide +kernel
theorem de0_29 : decode jdk_2097_method_124_code 29 = .ok (.getfield 32, 3) := by decide +kernel
theorem de0_32 : decode jdk_2097_method_124_code 32 = .ok (.if_icmp .eq 5, 3) := by decide +kernel
theorem de0_37 : decode jdk_2097_method_124_code 37 = .ok (.aload_n 0, 1) := by decide +kernel
theorem de0_38 : decode jdk_2097_method_124_code 38 = .ok (.getfield 28, 3) := by decide +kernel
theorem de0_41 : decode jdk_2097_method_124_code 41 = .ok (.astore_n 3, 1) := by decide +kernel
theorem de0_42 : decode jdk_2097_method_124_code 42 = .ok (.aload_n 3, 1) := by decide +kernel
theorem de0_43 : decode jdk_2097_method_124_code 43 = .ok (.arraylength, 1) := by decide +kernel
theorem de0_44 : decode jdk_2097_method_124_code 44 = .ok (.istore 4, 2) := by decide +kernel
theorem de0_46 : decode jdk_2097_method_124_code 46 = .ok (.aload_n 2, 1) := by decide +kernel
theorem de0_47 : decode jdk_2097_method_124_code 47 = .ok (.getfield 28, 3) := by decide +kernel
theorem de0_50 : decode jdk_2097_method_124_code 50 = .ok (.astore 5, 2) := by decide +kernel
theorem de0_52 : decode jdk_2097_method_124_code 52 = .ok (.iload 4, 2) := by decide +kernel
theorem de0_54 : decode jdk_2097_method_124_code 54 = .ok (.aload 5, 2) := by decide +kernel
theorem de0_56 : decode jdk_2097_method_124_code 56 = .ok (.arraylength, 1) := by decide +kernel
theorem de0_57 : decode jdk_2097_method_124_code 57 = .ok (.if_icmp .eq 5, 3) := by decide +kernel
theorem de0_62 : decode jdk_2097_method_124_code 62 = .ok (.iconst 0, 1) := by decide +kernel
theorem de0_63 : decode jdk_2097_method_124_code 63 = .ok (.istore 6, 2) := by decide +kernel
theorem de0_65 : decode jdk_2097_method_124_code 65 = .ok (.iload 6, 2) := by decide +kernel
theorem de0_67 : decode jdk_2097_method_124_code 67 = .ok (.iload 4, 2) := by decide +kernel
theorem de0_69 : decode jdk_2097_method_124_code 69 = .ok (.if_icmp .ge 23, 3) := by decide +kernel
theorem de0_92 : decode jdk_2097_method_124_code 92 = .ok (.iconst 1, 1) := by decide +kernel
theorem de0_93 : decode jdk_2097_method_124_code 93 = .ok (.ireturn, 1) := by decide +kernel
theorem ef_e0 (a1 : Addr) (a2 : Addr) (m1 m2 : Addr) (m : MethodId) : entryFrame m #[(.ref a1), (.ref a2)] 7 = mkF m 0 #[.val (.ref a1), .val (.ref a2), .unset, .unset, .unset, .unset, .unset] [] := by first | (simp [entryFrame, mkF, argsToLocals, Value.category, maxLocals]; done) | rfl
theorem pn_e0 : plainFor (⟨"java/math/BigInteger", "equals", "(Ljava/lang/Object;)Z"⟩ : MethodName) = true := by first | exact plainFor_of_name (by first | (simp [plainName, overriddenIn]; done) | decide +kernel) | decide +kernel
set_option maxRecDepth 65536 in
set_option maxHeartbeats 40000000 in
theorem rm_e0 (l : Launch) (Z : State) (a0 : Array Value) (hw : ∀ d ∈ tables_1, d.before a0 Z = true) (a1 : Addr) (a2 : Addr) (m1 m2 : Addr) (V : Nat) (h0 : Heap) (E_a1 : Exa Z h0 a1 "java/math/BigInteger") (F_mag_a1 : Fld Z h0 a1 "java/math/BigInteger" "mag" "[I" (.ref m1)) (F_signum_a1 : Fld Z h0 a1 "java/math/BigInteger" "signum" "I" (.int (0 : Int32))) (E_a2 : Exa Z h0 a2 "java/math/BigInteger") (F_mag_a2 : Fld Z h0 a2 "java/math/BigInteger" "mag" "[I" (.ref m2)) (F_signum_a2 : Fld Z h0 a2 "java/math/BigInteger" "signum" "I" (.int (0 : Int32))) (n12 : a1 ≠ a2) (V_m1 : Ar Z h0 m1 .int 0 (lf [])) (V_m2 : Ar Z h0 m2 .int 0 (lf [])) :
    Met l Z (⟨"java/math/BigInteger", "equals", "(Ljava/lang/Object;)Z"⟩ : MethodName) jdk_2097_method_124_code 7 (some .boolean) [] ({ frames := 0, cells := 0, slots := 0, locals := 0 } : Room) #[(.ref a1), (.ref a2)] [] h0 (fun v h => v = some (.int 1)) := by
  refine Met.mk pn_e0 (ef_e0 a1 a2 m1 m2) ?_
  intro C T hs0 O
  show Go C [] (fun v h => v = some (.int 1)) 0 0 (T.setTop (mkF C.m 0 #[.val (.ref a1), .val (.ref a2), .unset, .unset, .unset, .unset, .unset] []))
  refine Jvm.OwnW.aloadN O de0_0 rfl rfl (q := 1) rfl ?_
  refine Jvm.OwnW.aloadN O de0_1 rfl rfl (q := 2) rfl ?_
  refine Jvm.OwnW.acmp O de0_2 rfl rfl (same := false) (decide_eq_false (fun q => (Ne.symm n12) (Value.ref.inj q))) (by decide) (q := 7) (by decide) ?_
  refine Jvm.OwnW.aloadN O de0_7 rfl rfl (q := 8) rfl ?_
  refine Jvm.OwnW.instY O de0_8 (hw _ (List.mem_of_getElem? (i := 87) rfl)) (Ins.self E_a2) (q := 11) rfl ?_
  intro T1 O1
  refine Jvm.OwnW.ifNo O1 de0_11 (feq0 (show ¬ ((1 : Int32) = (0 : Int32)) from (by decide))).1 (q := 14) rfl ?_
  refine Jvm.OwnW.aloadN O1 de0_14 rfl rfl (q := 15) rfl ?_
  refine Jvm.OwnW.castY O1 de0_15 (hw _ (List.mem_of_getElem? (i := 87) rfl)) (Ins.self E_a2) (q := 18) rfl ?_
  intro T2 O2
  refine Jvm.OwnW.astoreN O2 de0_18 rfl (L' := #[.val (.ref a1), .val (.ref a2), .val (.ref a2), .unset, .unset, .unset, .unset]) rfl (q := 19) rfl ?_
  refine Jvm.OwnW.goto O2 de0_19 (by decide) (q := 24) rfl ?_
  refine Jvm.OwnW.aloadN O2 de0_24 rfl rfl (q := 25) rfl ?_
  refine Jvm.OwnW.getF O2 de0_25 (host := "") (Or.inl (hw _ (List.mem_of_getElem? (i := 76) rfl))) Via.refl F_signum_a2 (q := 28) rfl ?_
  intro T3 O3
  refine Jvm.OwnW.aloadN O3 de0_28 rfl rfl (q := 29) rfl ?_
  refine Jvm.OwnW.getF O3 de0_29 (host := "") (Or.inl (hw _ (List.mem_of_getElem? (i := 76) rfl))) Via.refl F_signum_a1 (q := 32) rfl ?_
  intro T4 O4
  refine Jvm.OwnW.icmpYes O4 de0_32 (teq (show (0 : Int32) = (0 : Int32) from (by decide))).1 (by decide) (q := 37) rfl ?_
  refine Jvm.OwnW.aloadN O4 de0_37 rfl rfl (q := 38) rfl ?_
  refine Jvm.OwnW.getF O4 de0_38 (host := "") (Or.inl (hw _ (List.mem_of_getElem? (i := 74) rfl))) Via.refl F_mag_a1 (q := 41) rfl ?_
  intro T5 O5
  refine Jvm.OwnW.astoreN O5 de0_41 rfl (L' := #[.val (.ref a1), .val (.ref a2), .val (.ref a2), .val (.ref m1), .unset, .unset, .unset]) rfl (q := 42) rfl ?_
  refine Jvm.OwnW.aloadN O5 de0_42 rfl rfl (q := 43) rfl ?_
  refine Jvm.OwnW.lenA O5 de0_43 V_m1 (z := (0 : Int32)) rfl (q := 44) rfl ?_
  refine Jvm.OwnW.istore O5 de0_44 (L' := #[.val (.ref a1), .val (.ref a2), .val (.ref a2), .val (.ref m1), .val (.int (0 : Int32)), .unset, .unset]) rfl (q := 46) rfl ?_
  refine Jvm.OwnW.aloadN O5 de0_46 rfl rfl (q := 47) rfl ?_
  refine Jvm.OwnW.getF O5 de0_47 (host := "") (Or.inl (hw _ (List.mem_of_getElem? (i := 74) rfl))) Via.refl F_mag_a2 (q := 50) rfl ?_
  intro T6 O6
  refine Jvm.OwnW.astore O6 de0_50 rfl (L' := #[.val (.ref a1), .val (.ref a2), .val (.ref a2), .val (.ref m1), .val (.int (0 : Int32)), .val (.ref m2), .unset]) rfl (q := 52) rfl ?_
  refine Jvm.OwnW.iload O6 de0_52 rfl (q := 54) rfl ?_
  refine Jvm.OwnW.aload O6 de0_54 rfl rfl (q := 56) rfl ?_
  refine Jvm.OwnW.lenA O6 de0_56 V_m2 (z := (0 : Int32)) rfl (q := 57) rfl ?_
  refine Jvm.OwnW.icmpYes O6 de0_57 (teq (show (0 : Int32) = (0 : Int32) from (by decide))).1 (by decide) (q := 62) rfl ?_
  refine Jvm.OwnW.iconst O6 de0_62 (r := (0 : Int32)) rfl (q := 63) rfl ?_
  refine Jvm.OwnW.istore O6 de0_63 (L' := #[.val (.ref a1), .val (.ref a2), .val (.ref a2), .val (.ref m1), .val (.int (0 : Int32)), .val (.ref m2), .val (.int (0 : Int32))]) rfl (q := 65) rfl ?_
  refine Jvm.OwnW.iload O6 de0_65 rfl (q := 67) rfl ?_
  refine Jvm.OwnW.iload O6 de0_67 rfl (q := 69) rfl ?_
  refine Jvm.OwnW.icmpYes O6 de0_69 (flt (show ¬ ((0 : Int32) < (0 : Int32)) from (by decide))).2.1 (by decide) (q := 92) rfl ?_
  refine Jvm.OwnW.iconst O6 de0_92 (r := (1 : Int32)) rfl (q := 93) rfl ?_
  exact Jvm.OwnW.retB O6 de0_93 rfl (Or.inr rfl) (by decide) (by decide) rfl
theorem de1_0 : decode jdk_2097_method_124_code 0 = .ok (.aload_n 1, 1) := by decide +kernel
theorem de1_1 : decode jdk_2097_method_124_code 1 = .ok (.aload_n 0, 1) := by decide +kernel
theorem de1_2 : decode jdk_2097_method_124_code 2 = .ok (.if_acmp .ne 5, 3) := by decide +kernel
theorem de1_7 : decode jdk_2097_method_124_code 7 = .ok (.aload_n 1, 1) := by decide +kernel
theorem de1_8 : decode jdk_2097_method_124_code 8 = .ok (.instanceof 23, 3) := by decide +kernel
theorem de1_11 : decode jdk_2097_method_124_code 11 = .ok (.ifCond .eq 11, 3) := by decide +kernel
theorem de1_14 : decode jdk_2097_method_124_code 14 = .ok (.aload_n 1, 1) := by decide +kernel
theorem de1_15 : decode jdk_2097_method_124_code 15 = .ok (.checkcast 23, 3) := by decide +kernel
theorem de1_18 : decode jdk_2097_method_124_code 18 = .ok (.astore_n 2, 1) := by decide +kernel
theorem de1_19 : decode jdk_2097_method_124_code 19 = .ok (.goto 5, 3) := by decide +kernel
theorem de1_24 : decode jdk_2097_method_124_code 24 = .ok (.aload_n 2, 1) := by decide +kernel
theorem de1_25 : decode jdk_2097_method_124_code 25 = .ok (.getfield 32, 3) := by decide +kernel
theorem de1_28 : decode jdk_2097_method_124_code 28 = .ok (.aload_n 0, 1) := by decide +kernel
theorem de1_29 : decode jdk_2097_method_124_code 29 = .ok (.getfield 32, 3) := by decide +kernel
theorem de1_32 : decode jdk_2097_method_124_code 32 = .ok (.if_icmp .eq 5, 3) := by decide +kernel
theorem de1_37 : decode jdk_2097_method_124_code 37 = .ok (.aload_n 0, 1) := by decide +kernel
theorem de1_38 : decode jdk_2097_method_124_code 38 = .ok (.getfield 28, 3) := by decide +kernel
theorem de1_41 : decode jdk_2097_method_124_code 41 = .ok (.astore_n 3, 1) := by decide +kernel
theorem de1_42 : decode jdk_2097_method_124_code 42 = .ok (.aload_n 3, 1) := by decide +kernel
theorem de1_43 : decode jdk_2097_method_124_code 43 = .ok (.arraylength, 1) := by decide +kernel
theorem de1_44 : decode jdk_2097_method_124_code 44 = .ok (.istore 4, 2) := by decide +kernel
theorem de1_46 : decode jdk_2097_method_124_code 46 = .ok (.aload_n 2, 1) := by decide +kernel
theorem de1_47 : decode jdk_2097_method_124_code 47 = .ok (.getfield 28, 3) := by decide +kernel
theorem de1_50 : decode jdk_2097_method_124_code 50 = .ok (.astore 5, 2) := by decide +kernel
theorem de1_52 : decode jdk_2097_method_124_code 52 = .ok (.iload 4, 2) := by decide +kernel
theorem de1_54 : decode jdk_2097_method_124_code 54 = .ok (.aload 5, 2) := by decide +kernel
theorem de1_56 : decode jdk_2097_method_124_code 56 = .ok (.arraylength, 1) := by decide +kernel
theorem de1_57 : decode jdk_2097_method_124_code 57 = .ok (.if_icmp .eq 5, 3) := by decide +kernel
theorem de1_62 : decode jdk_2097_method_124_code 62 = .ok (.iconst 0, 1) := by decide +kernel
theorem de1_63 : decode jdk_2097_method_124_code 63 = .ok (.istore 6, 2) := by decide +kernel
theorem de1_65 : decode jdk_2097_method_124_code 65 = .ok (.iload 6, 2) := by decide +kernel
theorem de1_67 : decode jdk_2097_method_124_code 67 = .ok (.iload 4, 2) := by decide +kernel
theorem de1_69 : decode jdk_2097_method_124_code 69 = .ok (.if_icmp .ge 23, 3) := by decide +kernel
theorem de1_72 : decode jdk_2097_method_124_code 72 = .ok (.aload 5, 2) := by decide +kernel
theorem de1_74 : decode jdk_2097_method_124_code 74 = .ok (.iload 6, 2) := by decide +kernel
theorem de1_76 : decode jdk_2097_method_124_code 76 = .ok (.iaload, 1) := by decide +kernel
theorem de1_77 : decode jdk_2097_method_124_code 77 = .ok (.aload_n 3, 1) := by decide +kernel
theorem de1_78 : decode jdk_2097_method_124_code 78 = .ok (.iload 6, 2) := by decide +kernel
theorem de1_80 : decode jdk_2097_method_124_code 80 = .ok (.iaload, 1) := by decide +kernel
theorem de1_81 : decode jdk_2097_method_124_code 81 = .ok (.if_icmp .eq 5, 3) := by decide +kernel
theorem de1_86 : decode jdk_2097_method_124_code 86 = .ok (.iinc 6 1, 3) := by decide +kernel
theorem de1_89 : decode jdk_2097_method_124_code 89 = .ok (.goto (-24), 3) := by decide +kernel
theorem de1_92 : decode jdk_2097_method_124_code 92 = .ok (.iconst 1, 1) := by decide +kernel
theorem de1_93 : decode jdk_2097_method_124_code 93 = .ok (.ireturn, 1) := by decide +kernel
theorem ef_e1 (a1 : Addr) (a2 : Addr) (m1 m2 : Addr) (m : MethodId) : entryFrame m #[(.ref a1), (.ref a2)] 7 = mkF m 0 #[.val (.ref a1), .val (.ref a2), .unset, .unset, .unset, .unset, .unset] [] := by first | (simp [entryFrame, mkF, argsToLocals, Value.category, maxLocals]; done) | rfl
theorem pn_e1 : plainFor (⟨"java/math/BigInteger", "equals", "(Ljava/lang/Object;)Z"⟩ : MethodName) = true := by first | exact plainFor_of_name (by first | (simp [plainName, overriddenIn]; done) | decide +kernel) | decide +kernel
set_option maxRecDepth 65536 in
set_option maxHeartbeats 40000000 in
theorem rm_e1 (l : Launch) (Z : State) (a0 : Array Value) (hw : ∀ d ∈ tables_1, d.before a0 Z = true) (a1 : Addr) (a2 : Addr) (m1 m2 : Addr) (V : Nat) (h0 : Heap) (E_a1 : Exa Z h0 a1 "java/math/BigInteger") (F_mag_a1 : Fld Z h0 a1 "java/math/BigInteger" "mag" "[I" (.ref m1)) (F_signum_a1 : Fld Z h0 a1 "java/math/BigInteger" "signum" "I" (.int (1 : Int32))) (E_a2 : Exa Z h0 a2 "java/math/BigInteger") (F_mag_a2 : Fld Z h0 a2 "java/math/BigInteger" "mag" "[I" (.ref m2)) (F_signum_a2 : Fld Z h0 a2 "java/math/BigInteger" "signum" "I" (.int (1 : Int32))) (n12 : a1 ≠ a2) (V_m1 : Ar Z h0 m1 .int 1 (lf [(.int (own_i V))])) (V_m2 : Ar Z h0 m2 .int 1 (lf [(.int (own_i V))])) :
    Met l Z (⟨"java/math/BigInteger", "equals", "(Ljava/lang/Object;)Z"⟩ : MethodName) jdk_2097_method_124_code 7 (some .boolean) [] ({ frames := 0, cells := 0, slots := 0, locals := 0 } : Room) #[(.ref a1), (.ref a2)] [] h0 (fun v h => v = some (.int 1)) := by
  refine Met.mk pn_e1 (ef_e1 a1 a2 m1 m2) ?_
  intro C T hs0 O
  show Go C [] (fun v h => v = some (.int 1)) 0 0 (T.setTop (mkF C.m 0 #[.val (.ref a1), .val (.ref a2), .unset, .unset, .unset, .unset, .unset] []))
  refine Jvm.OwnW.aloadN O de1_0 rfl rfl (q := 1) rfl ?_
  refine Jvm.OwnW.aloadN O de1_1 rfl rfl (q := 2) rfl ?_
  refine Jvm.OwnW.acmp O de1_2 rfl rfl (same := false) (decide_eq_false (fun q => (Ne.symm n12) (Value.ref.inj q))) (by decide) (q := 7) (by decide) ?_
  refine Jvm.OwnW.aloadN O de1_7 rfl rfl (q := 8) rfl ?_
  refine Jvm.OwnW.instY O de1_8 (hw _ (List.mem_of_getElem? (i := 87) rfl)) (Ins.self E_a2) (q := 11) rfl ?_
  intro T1 O1
  refine Jvm.OwnW.ifNo O1 de1_11 (feq0 (show ¬ ((1 : Int32) = (0 : Int32)) from (by decide))).1 (q := 14) rfl ?_
  refine Jvm.OwnW.aloadN O1 de1_14 rfl rfl (q := 15) rfl ?_
  refine Jvm.OwnW.castY O1 de1_15 (hw _ (List.mem_of_getElem? (i := 87) rfl)) (Ins.self E_a2) (q := 18) rfl ?_
  intro T2 O2
  refine Jvm.OwnW.astoreN O2 de1_18 rfl (L' := #[.val (.ref a1), .val (.ref a2), .val (.ref a2), .unset, .unset, .unset, .unset]) rfl (q := 19) rfl ?_
  refine Jvm.OwnW.goto O2 de1_19 (by decide) (q := 24) rfl ?_
  refine Jvm.OwnW.aloadN O2 de1_24 rfl rfl (q := 25) rfl ?_
  refine Jvm.OwnW.getF O2 de1_25 (host := "") (Or.inl (hw _ (List.mem_of_getElem? (i := 76) rfl))) Via.refl F_signum_a2 (q := 28) rfl ?_
  intro T3 O3
  refine Jvm.OwnW.aloadN O3 de1_28 rfl rfl (q := 29) rfl ?_
  refine Jvm.OwnW.getF O3 de1_29 (host := "") (Or.inl (hw _ (List.mem_of_getElem? (i := 76) rfl))) Via.refl F_signum_a1 (q := 32) rfl ?_
  intro T4 O4
  refine Jvm.OwnW.icmpYes O4 de1_32 (teq (show (1 : Int32) = (1 : Int32) from (by decide))).1 (by decide) (q := 37) rfl ?_
  refine Jvm.OwnW.aloadN O4 de1_37 rfl rfl (q := 38) rfl ?_
  refine Jvm.OwnW.getF O4 de1_38 (host := "") (Or.inl (hw _ (List.mem_of_getElem? (i := 74) rfl))) Via.refl F_mag_a1 (q := 41) rfl ?_
  intro T5 O5
  refine Jvm.OwnW.astoreN O5 de1_41 rfl (L' := #[.val (.ref a1), .val (.ref a2), .val (.ref a2), .val (.ref m1), .unset, .unset, .unset]) rfl (q := 42) rfl ?_
  refine Jvm.OwnW.aloadN O5 de1_42 rfl rfl (q := 43) rfl ?_
  refine Jvm.OwnW.lenA O5 de1_43 V_m1 (z := (1 : Int32)) rfl (q := 44) rfl ?_
  refine Jvm.OwnW.istore O5 de1_44 (L' := #[.val (.ref a1), .val (.ref a2), .val (.ref a2), .val (.ref m1), .val (.int (1 : Int32)), .unset, .unset]) rfl (q := 46) rfl ?_
  refine Jvm.OwnW.aloadN O5 de1_46 rfl rfl (q := 47) rfl ?_
  refine Jvm.OwnW.getF O5 de1_47 (host := "") (Or.inl (hw _ (List.mem_of_getElem? (i := 74) rfl))) Via.refl F_mag_a2 (q := 50) rfl ?_
  intro T6 O6
  refine Jvm.OwnW.astore O6 de1_50 rfl (L' := #[.val (.ref a1), .val (.ref a2), .val (.ref a2), .val (.ref m1), .val (.int (1 : Int32)), .val (.ref m2), .unset]) rfl (q := 52) rfl ?_
  refine Jvm.OwnW.iload O6 de1_52 rfl (q := 54) rfl ?_
  refine Jvm.OwnW.aload O6 de1_54 rfl rfl (q := 56) rfl ?_
  refine Jvm.OwnW.lenA O6 de1_56 V_m2 (z := (1 : Int32)) rfl (q := 57) rfl ?_
  refine Jvm.OwnW.icmpYes O6 de1_57 (teq (show (1 : Int32) = (1 : Int32) from (by decide))).1 (by decide) (q := 62) rfl ?_
  refine Jvm.OwnW.iconst O6 de1_62 (r := (0 : Int32)) rfl (q := 63) rfl ?_
  refine Jvm.OwnW.istore O6 de1_63 (L' := #[.val (.ref a1), .val (.ref a2), .val (.ref a2), .val (.ref m1), .val (.int (1 : Int32)), .val (.ref m2), .val (.int (0 : Int32))]) rfl (q := 65) rfl ?_
  refine Jvm.OwnW.iload O6 de1_65 rfl (q := 67) rfl ?_
  refine Jvm.OwnW.iload O6 de1_67 rfl (q := 69) rfl ?_
  refine Jvm.OwnW.icmpNo O6 de1_69 (tlt (show (0 : Int32) < (1 : Int32) from (by decide))).2.1 (q := 72) rfl ?_
  refine Jvm.OwnW.aload O6 de1_72 rfl rfl (q := 74) rfl ?_
  refine Jvm.OwnW.iload O6 de1_74 rfl (q := 76) rfl ?_
  refine Jvm.OwnW.ialA O6 de1_76 V_m2 (i := 0) rfl (by decide) (v := (.int (own_i V))) rfl (q := 77) rfl ?_
  refine Jvm.OwnW.aloadN O6 de1_77 rfl rfl (q := 78) rfl ?_
  refine Jvm.OwnW.iload O6 de1_78 rfl (q := 80) rfl ?_
  refine Jvm.OwnW.ialA O6 de1_80 V_m1 (i := 0) rfl (by decide) (v := (.int (own_i V))) rfl (q := 81) rfl ?_
  refine Jvm.OwnW.icmpYes O6 de1_81 (teq (show (own_i V) = (own_i V) from rfl)).1 (by decide) (q := 86) rfl ?_
  refine Jvm.OwnW.iinc O6 de1_86 rfl (L' := #[.val (.ref a1), .val (.ref a2), .val (.ref a2), .val (.ref m1), .val (.int (1 : Int32)), .val (.ref m2), .val (.int (1 : Int32))]) rfl (q := 89) rfl ?_
  refine Jvm.OwnW.goto O6 de1_89 (by decide) (q := 65) rfl ?_
  refine Jvm.OwnW.iload O6 de1_65 rfl (q := 67) rfl ?_
  refine Jvm.OwnW.iload O6 de1_67 rfl (q := 69) rfl ?_
  refine Jvm.OwnW.icmpYes O6 de1_69 (flt (show ¬ ((1 : Int32) < (1 : Int32)) from (by decide))).2.1 (by decide) (q := 92) rfl ?_
  refine Jvm.OwnW.iconst O6 de1_92 (r := (1 : Int32)) rfl (q := 93) rfl ?_
  exact Jvm.OwnW.retB O6 de1_93 rfl (Or.inr rfl) (by decide) (by decide) rfl
theorem de2_0 : decode jdk_2097_method_124_code 0 = .ok (.aload_n 1, 1) := by decide +kernel
theorem de2_1 : decode jdk_2097_method_124_code 1 = .ok (.aload_n 0, 1) := by decide +kernel
theorem de2_2 : decode jdk_2097_method_124_code 2 = .ok (.if_acmp .ne 5, 3) := by decide +kernel
theorem de2_7 : decode jdk_2097_method_124_code 7 = .ok (.aload_n 1, 1) := by decide +kernel
theorem de2_8 : decode jdk_2097_method_124_code 8 = .ok (.instanceof 23, 3) := by decide +kernel
theorem de2_11 : decode jdk_2097_method_124_code 11 = .ok (.ifCond .eq 11, 3) := by decide +kernel
theorem de2_14 : decode jdk_2097_method_124_code 14 = .ok (.aload_n 1, 1) := by decide +kernel
theorem de2_15 : decode jdk_2097_method_124_code 15 = .ok (.checkcast 23, 3) := by decide +kernel
theorem de2_18 : decode jdk_2097_method_124_code 18 = .ok (.astore_n 2, 1) := by decide +kernel
theorem de2_19 : decode jdk_2097_method_124_code 19 = .ok (.goto 5, 3) := by decide +kernel
theorem de2_24 : decode jdk_2097_method_124_code 24 = .ok (.aload_n 2, 1) := by decide +kernel
theorem de2_25 : decode jdk_2097_method_124_code 25 = .ok (.getfield 32, 3) := by decide +kernel
theorem de2_28 : decode jdk_2097_method_124_code 28 = .ok (.aload_n 0, 1) := by decide +kernel
theorem de2_29 : decode jdk_2097_method_124_code 29 = .ok (.getfield 32, 3) := by decide +kernel
theorem de2_32 : decode jdk_2097_method_124_code 32 = .ok (.if_icmp .eq 5, 3) := by decide +kernel
theorem de2_37 : decode jdk_2097_method_124_code 37 = .ok (.aload_n 0, 1) := by decide +kernel
theorem de2_38 : decode jdk_2097_method_124_code 38 = .ok (.getfield 28, 3) := by decide +kernel
theorem de2_41 : decode jdk_2097_method_124_code 41 = .ok (.astore_n 3, 1) := by decide +kernel
theorem de2_42 : decode jdk_2097_method_124_code 42 = .ok (.aload_n 3, 1) := by decide +kernel
theorem de2_43 : decode jdk_2097_method_124_code 43 = .ok (.arraylength, 1) := by decide +kernel
theorem de2_44 : decode jdk_2097_method_124_code 44 = .ok (.istore 4, 2) := by decide +kernel
theorem de2_46 : decode jdk_2097_method_124_code 46 = .ok (.aload_n 2, 1) := by decide +kernel
theorem de2_47 : decode jdk_2097_method_124_code 47 = .ok (.getfield 28, 3) := by decide +kernel
theorem de2_50 : decode jdk_2097_method_124_code 50 = .ok (.astore 5, 2) := by decide +kernel
theorem de2_52 : decode jdk_2097_method_124_code 52 = .ok (.iload 4, 2) := by decide +kernel
theorem de2_54 : decode jdk_2097_method_124_code 54 = .ok (.aload 5, 2) := by decide +kernel
theorem de2_56 : decode jdk_2097_method_124_code 56 = .ok (.arraylength, 1) := by decide +kernel
theorem de2_57 : decode jdk_2097_method_124_code 57 = .ok (.if_icmp .eq 5, 3) := by decide +kernel
theorem de2_62 : decode jdk_2097_method_124_code 62 = .ok (.iconst 0, 1) := by decide +kernel
theorem de2_63 : decode jdk_2097_method_124_code 63 = .ok (.istore 6, 2) := by decide +kernel
theorem de2_65 : decode jdk_2097_method_124_code 65 = .ok (.iload 6, 2) := by decide +kernel
theorem de2_67 : decode jdk_2097_method_124_code 67 = .ok (.iload 4, 2) := by decide +kernel
theorem de2_69 : decode jdk_2097_method_124_code 69 = .ok (.if_icmp .ge 23, 3) := by decide +kernel
theorem de2_72 : decode jdk_2097_method_124_code 72 = .ok (.aload 5, 2) := by decide +kernel
theorem de2_74 : decode jdk_2097_method_124_code 74 = .ok (.iload 6, 2) := by decide +kernel
theorem de2_76 : decode jdk_2097_method_124_code 76 = .ok (.iaload, 1) := by decide +kernel
theorem de2_77 : decode jdk_2097_method_124_code 77 = .ok (.aload_n 3, 1) := by decide +kernel
theorem de2_78 : decode jdk_2097_method_124_code 78 = .ok (.iload 6, 2) := by decide +kernel
theorem de2_80 : decode jdk_2097_method_124_code 80 = .ok (.iaload, 1) := by decide +kernel
theorem de2_81 : decode jdk_2097_method_124_code 81 = .ok (.if_icmp .eq 5, 3) := by decide +kernel
theorem de2_86 : decode jdk_2097_method_124_code 86 = .ok (.iinc 6 1, 3) := by decide +kernel
theorem de2_89 : decode jdk_2097_method_124_code 89 = .ok (.goto (-24), 3) := by decide +kernel
theorem de2_92 : decode jdk_2097_method_124_code 92 = .ok (.iconst 1, 1) := by decide +kernel
theorem de2_93 : decode jdk_2097_method_124_code 93 = .ok (.ireturn, 1) := by decide +kernel
theorem ef_e2 (a1 : Addr) (a2 : Addr) (m1 m2 : Addr) (m : MethodId) : entryFrame m #[(.ref a1), (.ref a2)] 7 = mkF m 0 #[.val (.ref a1), .val (.ref a2), .unset, .unset, .unset, .unset, .unset] [] := by first | (simp [entryFrame, mkF, argsToLocals, Value.category, maxLocals]; done) | rfl
theorem pn_e2 : plainFor (⟨"java/math/BigInteger", "equals", "(Ljava/lang/Object;)Z"⟩ : MethodName) = true := by first | exact plainFor_of_name (by first | (simp [plainName, overriddenIn]; done) | decide +kernel) | decide +kernel
set_option maxRecDepth 65536 in
set_option maxHeartbeats 40000000 in
theorem rm_e2 (l : Launch) (Z : State) (a0 : Array Value) (hw : ∀ d ∈ tables_1, d.before a0 Z = true) (a1 : Addr) (a2 : Addr) (m1 m2 : Addr) (V : Nat) (h0 : Heap) (E_a1 : Exa Z h0 a1 "java/math/BigInteger") (F_mag_a1 : Fld Z h0 a1 "java/math/BigInteger" "mag" "[I" (.ref m1)) (F_signum_a1 : Fld Z h0 a1 "java/math/BigInteger" "signum" "I" (.int (1 : Int32))) (E_a2 : Exa Z h0 a2 "java/math/BigInteger") (F_mag_a2 : Fld Z h0 a2 "java/math/BigInteger" "mag" "[I" (.ref m2)) (F_signum_a2 : Fld Z h0 a2 "java/math/BigInteger" "signum" "I" (.int (1 : Int32))) (n12 : a1 ≠ a2) (V_m1 : Ar Z h0 m1 .int 2 (lf [(.int (own_i (V / 4294967296))), (.int (own_i V))])) (V_m2 : Ar Z h0 m2 .int 2 (lf [(.int (own_i (V / 4294967296))), (.int (own_i V))])) :
    Met l Z (⟨"java/math/BigInteger", "equals", "(Ljava/lang/Object;)Z"⟩ : MethodName) jdk_2097_method_124_code 7 (some .boolean) [] ({ frames := 0, cells := 0, slots := 0, locals := 0 } : Room) #[(.ref a1), (.ref a2)] [] h0 (fun v h => v = some (.int 1)) := by
  refine Met.mk pn_e2 (ef_e2 a1 a2 m1 m2) ?_
  intro C T hs0 O
  show Go C [] (fun v h => v = some (.int 1)) 0 0 (T.setTop (mkF C.m 0 #[.val (.ref a1), .val (.ref a2), .unset, .unset, .unset, .unset, .unset] []))
  refine Jvm.OwnW.aloadN O de2_0 rfl rfl (q := 1) rfl ?_
  refine Jvm.OwnW.aloadN O de2_1 rfl rfl (q := 2) rfl ?_
  refine Jvm.OwnW.acmp O de2_2 rfl rfl (same := false) (decide_eq_false (fun q => (Ne.symm n12) (Value.ref.inj q))) (by decide) (q := 7) (by decide) ?_
  refine Jvm.OwnW.aloadN O de2_7 rfl rfl (q := 8) rfl ?_
  refine Jvm.OwnW.instY O de2_8 (hw _ (List.mem_of_getElem? (i := 87) rfl)) (Ins.self E_a2) (q := 11) rfl ?_
  intro T1 O1
  refine Jvm.OwnW.ifNo O1 de2_11 (feq0 (show ¬ ((1 : Int32) = (0 : Int32)) from (by decide))).1 (q := 14) rfl ?_
  refine Jvm.OwnW.aloadN O1 de2_14 rfl rfl (q := 15) rfl ?_
  refine Jvm.OwnW.castY O1 de2_15 (hw _ (List.mem_of_getElem? (i := 87) rfl)) (Ins.self E_a2) (q := 18) rfl ?_
  intro T2 O2
  refine Jvm.OwnW.astoreN O2 de2_18 rfl (L' := #[.val (.ref a1), .val (.ref a2), .val (.ref a2), .unset, .unset, .unset, .unset]) rfl (q := 19) rfl ?_
  refine Jvm.OwnW.goto O2 de2_19 (by decide) (q := 24) rfl ?_
  refine Jvm.OwnW.aloadN O2 de2_24 rfl rfl (q := 25) rfl ?_
  refine Jvm.OwnW.getF O2 de2_25 (host := "") (Or.inl (hw _ (List.mem_of_getElem? (i := 76) rfl))) Via.refl F_signum_a2 (q := 28) rfl ?_
  intro T3 O3
  refine Jvm.OwnW.aloadN O3 de2_28 rfl rfl (q := 29) rfl ?_
  refine Jvm.OwnW.getF O3 de2_29 (host := "") (Or.inl (hw _ (List.mem_of_getElem? (i := 76) rfl))) Via.refl F_signum_a1 (q := 32) rfl ?_
  intro T4 O4
  refine Jvm.OwnW.icmpYes O4 de2_32 (teq (show (1 : Int32) = (1 : Int32) from (by decide))).1 (by decide) (q := 37) rfl ?_
  refine Jvm.OwnW.aloadN O4 de2_37 rfl rfl (q := 38) rfl ?_
  refine Jvm.OwnW.getF O4 de2_38 (host := "") (Or.inl (hw _ (List.mem_of_getElem? (i := 74) rfl))) Via.refl F_mag_a1 (q := 41) rfl ?_
  intro T5 O5
  refine Jvm.OwnW.astoreN O5 de2_41 rfl (L' := #[.val (.ref a1), .val (.ref a2), .val (.ref a2), .val (.ref m1), .unset, .unset, .unset]) rfl (q := 42) rfl ?_
  refine Jvm.OwnW.aloadN O5 de2_42 rfl rfl (q := 43) rfl ?_
  refine Jvm.OwnW.lenA O5 de2_43 V_m1 (z := (2 : Int32)) rfl (q := 44) rfl ?_
  refine Jvm.OwnW.istore O5 de2_44 (L' := #[.val (.ref a1), .val (.ref a2), .val (.ref a2), .val (.ref m1), .val (.int (2 : Int32)), .unset, .unset]) rfl (q := 46) rfl ?_
  refine Jvm.OwnW.aloadN O5 de2_46 rfl rfl (q := 47) rfl ?_
  refine Jvm.OwnW.getF O5 de2_47 (host := "") (Or.inl (hw _ (List.mem_of_getElem? (i := 74) rfl))) Via.refl F_mag_a2 (q := 50) rfl ?_
  intro T6 O6
  refine Jvm.OwnW.astore O6 de2_50 rfl (L' := #[.val (.ref a1), .val (.ref a2), .val (.ref a2), .val (.ref m1), .val (.int (2 : Int32)), .val (.ref m2), .unset]) rfl (q := 52) rfl ?_
  refine Jvm.OwnW.iload O6 de2_52 rfl (q := 54) rfl ?_
  refine Jvm.OwnW.aload O6 de2_54 rfl rfl (q := 56) rfl ?_
  refine Jvm.OwnW.lenA O6 de2_56 V_m2 (z := (2 : Int32)) rfl (q := 57) rfl ?_
  refine Jvm.OwnW.icmpYes O6 de2_57 (teq (show (2 : Int32) = (2 : Int32) from (by decide))).1 (by decide) (q := 62) rfl ?_
  refine Jvm.OwnW.iconst O6 de2_62 (r := (0 : Int32)) rfl (q := 63) rfl ?_
  refine Jvm.OwnW.istore O6 de2_63 (L' := #[.val (.ref a1), .val (.ref a2), .val (.ref a2), .val (.ref m1), .val (.int (2 : Int32)), .val (.ref m2), .val (.int (0 : Int32))]) rfl (q := 65) rfl ?_
  refine Jvm.OwnW.iload O6 de2_65 rfl (q := 67) rfl ?_
  refine Jvm.OwnW.iload O6 de2_67 rfl (q := 69) rfl ?_
  refine Jvm.OwnW.icmpNo O6 de2_69 (tlt (show (0 : Int32) < (2 : Int32) from (by decide))).2.1 (q := 72) rfl ?_
  refine Jvm.OwnW.aload O6 de2_72 rfl rfl (q := 74) rfl ?_
  refine Jvm.OwnW.iload O6 de2_74 rfl (q := 76) rfl ?_
  refine Jvm.OwnW.ialA O6 de2_76 V_m2 (i := 0) rfl (by decide) (v := (.int (own_i (V / 4294967296)))) rfl (q := 77) rfl ?_
  refine Jvm.OwnW.aloadN O6 de2_77 rfl rfl (q := 78) rfl ?_
  refine Jvm.OwnW.iload O6 de2_78 rfl (q := 80) rfl ?_
  refine Jvm.OwnW.ialA O6 de2_80 V_m1 (i := 0) rfl (by decide) (v := (.int (own_i (V / 4294967296)))) rfl (q := 81) rfl ?_
  refine Jvm.OwnW.icmpYes O6 de2_81 (teq (show (own_i (V / 4294967296)) = (own_i (V / 4294967296)) from rfl)).1 (by decide) (q := 86) rfl ?_
  refine Jvm.OwnW.iinc O6 de2_86 rfl (L' := #[.val (.ref a1), .val (.ref a2), .val (.ref a2), .val (.ref m1), .val (.int (2 : Int32)), .val (.ref m2), .val (.int (1 : Int32))]) rfl (q := 89) rfl ?_
  refine Jvm.OwnW.goto O6 de2_89 (by decide) (q := 65) rfl ?_
  refine Jvm.OwnW.iload O6 de2_65 rfl (q := 67) rfl ?_
  refine Jvm.OwnW.iload O6 de2_67 rfl (q := 69) rfl ?_
  refine Jvm.OwnW.icmpNo O6 de2_69 (tlt (show (1 : Int32) < (2 : Int32) from (by decide))).2.1 (q := 72) rfl ?_
  refine Jvm.OwnW.aload O6 de2_72 rfl rfl (q := 74) rfl ?_
  refine Jvm.OwnW.iload O6 de2_74 rfl (q := 76) rfl ?_
  refine Jvm.OwnW.ialA O6 de2_76 V_m2 (i := 1) rfl (by decide) (v := (.int (own_i V))) rfl (q := 77) rfl ?_
  refine Jvm.OwnW.aloadN O6 de2_77 rfl rfl (q := 78) rfl ?_
  refine Jvm.OwnW.iload O6 de2_78 rfl (q := 80) rfl ?_
  refine Jvm.OwnW.ialA O6 de2_80 V_m1 (i := 1) rfl (by decide) (v := (.int (own_i V))) rfl (q := 81) rfl ?_
  refine Jvm.OwnW.icmpYes O6 de2_81 (teq (show (own_i V) = (own_i V) from rfl)).1 (by decide) (q := 86) rfl ?_
  refine Jvm.OwnW.iinc O6 de2_86 rfl (L' := #[.val (.ref a1), .val (.ref a2), .val (.ref a2), .val (.ref m1), .val (.int (2 : Int32)), .val (.ref m2), .val (.int (2 : Int32))]) rfl (q := 89) rfl ?_
  refine Jvm.OwnW.goto O6 de2_89 (by decide) (q := 65) rfl ?_
  refine Jvm.OwnW.iload O6 de2_65 rfl (q := 67) rfl ?_
  refine Jvm.OwnW.iload O6 de2_67 rfl (q := 69) rfl ?_
  refine Jvm.OwnW.icmpYes O6 de2_69 (flt (show ¬ ((2 : Int32) < (2 : Int32)) from (by decide))).2.1 (by decide) (q := 92) rfl ?_
  refine Jvm.OwnW.iconst O6 de2_92 (r := (1 : Int32)) rfl (q := 93) rfl ?_
  exact Jvm.OwnW.retB O6 de2_93 rfl (Or.inr rfl) (by decide) (by decide) rfl
theorem rm_e (l : Launch) (Z : State) (a0 : Array Value) (hw : ∀ d ∈ tables_1, d.before a0 Z = true) (a1 a2 : Addr) (V : Nat) (h0 : Heap) (B1 : own_big Z h0 a1 V) (B2 : own_big Z h0 a2 V) :
    Met l Z (⟨"java/math/BigInteger", "equals", "(Ljava/lang/Object;)Z"⟩ : MethodName) jdk_2097_method_124_code 7 (some .boolean) [] ({ frames := 0, cells := 0, slots := 0, locals := 0 } : Room) #[.ref a1, .ref a2] [] h0 (fun v h => v = some (.int 1)) := by
  by_cases q : a1 = a2
  · subst q; exact rm_e3 l Z a0 hw a1 h0
  · obtain ⟨E1, m1, F1, S1, M1⟩ := B1
    obtain ⟨E2, m2, F2, S2, M2⟩ := B2
    rcases M1 with ⟨v0, A1⟩ | ⟨va, vb, A1⟩ | ⟨va, vb, A1⟩
    · rcases M2 with ⟨w0, A2⟩ | ⟨wa, wb, A2⟩ | ⟨wa, wb, A2⟩
      · rw [if_pos v0] at S1 S2; exact rm_e0 l Z a0 hw a1 a2 m1 m2 V h0 E1 F1 S1 E2 F2 S2 q A1 A2
      · exfalso; omega
      · exfalso; omega
    · rcases M2 with ⟨w0, A2⟩ | ⟨wa, wb, A2⟩ | ⟨wa, wb, A2⟩
      · exfalso; omega
      · rw [if_neg (by omega)] at S1 S2; exact rm_e1 l Z a0 hw a1 a2 m1 m2 V h0 E1 F1 S1 E2 F2 S2 q A1 A2
      · exfalso; omega
    · rcases M2 with ⟨w0, A2⟩ | ⟨wa, wb, A2⟩ | ⟨wa, wb, A2⟩
      · exfalso; omega
      · exfalso; omega
      · rw [if_neg (by omega)] at S1 S2; exact rm_e2 l Z a0 hw a1 a2 m1 m2 V h0 E1 F1 S1 E2 F2 S2 q A1 A2
theorem own_and31 (x : Int32) : 0 ≤ (x &&& 31).toInt ∧ (x &&& 31).toInt ≤ 31 := c_and x 31 (by decide)
theorem own_nn64 {x : Int64} {n : Nat} (h : x.toInt = (n : Int)) : x.toBitVec.toNat = n := by
  have h1 : x.toInt = x.toBitVec.toInt := rfl
  have h2 := x.toBitVec.isLt
  rw [h1, BitVec.toInt_eq_toNat_cond] at h
  split at h <;> omega
theorem own_low (v c : Int32) {k : Nat} (hc : c.toInt = (k : Int)) (hk : k ≤ 31) : ∃ a : Nat, (fn_w v c).toInt = (a : Int) ∧ a < 2 ^ k := by
  have hp : 0 < 2 ^ k := Nat.pos_of_ne_zero (by simp)
  have h31 : 2 ^ k ≤ 2 ^ 31 := Nat.pow_le_pow_right (by decide) hk
  have o1 : (1 : Int64).toInt = 1 := rfl
  have h1 := c_lshl 1 c k (own_sh hc (by omega))
  rw [o1, Int.one_mul] at h1
  unfold fn_w
  obtain ⟨S, hS⟩ : ∃ S, (1 : Int64) <<< (c &&& 0x3f).toInt64 = S := ⟨_, rfl⟩
  rw [hS] at h1 ⊢
  have hr := rng64 S
  have e1 : S.toInt = ((2 ^ k : Nat) : Int) := by omega
  have e2 : (S - 1).toInt = ((2 ^ k - 1 : Nat) : Int) := by rw [Jvm.OwnW.sub64 (by omega) (by omega), o1]; omega
  have h2 := c_maskL v.toInt64 (S - 1) k (by omega) (own_nn64 e2)
  have h3 := c_l2i (v.toInt64 &&& (S - 1))
  have h4 := rng32 (v.toInt64 &&& (S - 1)).toInt32
  have m1 := Int.emod_nonneg v.toInt64.toInt (b := ((2 ^ k : Nat) : Int)) (by omega)
  have m2 := Int.emod_lt_of_pos v.toInt64.toInt (b := ((2 ^ k : Nat) : Int)) (by omega)
  rw [← h2] at m1 m2
  exact ⟨(v.toInt64 &&& (S - 1)).toInt.toNat, by omega, by omega⟩
theorem own_c3 (c1 c2 c3 : Int32) (b1 : 0 ≤ c1.toInt ∧ c1.toInt ≤ 31) (b2 : 0 ≤ c2.toInt ∧ c2.toInt ≤ 31) (b3 : 0 ≤ c3.toInt ∧ c3.toInt ≤ 31) : ∃ n1 n2 n3 : Nat, c1.toInt = (n1 : Int) ∧ c2.toInt = (n2 : Int) ∧ (fn_x (0 : Int32) (fn_n c3 (((62 : Int32) - c1) - c2))).toInt = (n3 : Int) ∧ n1 ≤ 31 ∧ n2 ≤ 31 ∧ n3 ≤ 31 ∧ n1 + n2 + n3 ≤ 62 := by
  have z62 : (62 : Int32).toInt = 62 := rfl
  have z0 : (0 : Int32).toInt = 0 := rfl
  have s1 : ((62 : Int32) - c1).toInt = 62 - c1.toInt := by rw [Jvm.OwnW.sub32 (by omega) (by omega), z62]
  have s2 : (((62 : Int32) - c1) - c2).toInt = 62 - c1.toInt - c2.toInt := by rw [Jvm.OwnW.sub32 (by omega) (by omega), s1]
  obtain ⟨lm, hl⟩ : ∃ lm, ((62 : Int32) - c1) - c2 = lm := ⟨_, rfl⟩
  rw [hl] at s2 ⊢
  obtain ⟨y, hy, y0, y1, y2⟩ : ∃ y, fn_n c3 lm = y ∧ 0 ≤ y.toInt ∧ y.toInt ≤ c3.toInt ∧ y.toInt ≤ lm.toInt := by
    unfold fn_n
    by_cases q : lm < c3
    · rw [if_pos q]; rw [Int32.lt_iff_toInt_lt] at q; exact ⟨_, rfl, by omega, by omega, by omega⟩
    · rw [if_neg q]; rw [Int32.lt_iff_toInt_lt] at q; exact ⟨_, rfl, by omega, by omega, by omega⟩
  rw [hy]
  have hx : (fn_x (0 : Int32) y).toInt = y.toInt := by
    unfold fn_x
    by_cases q : (0 : Int32) < y
    · rw [if_pos q]
    · rw [if_neg q]; rw [Int32.lt_iff_toInt_lt] at q; omega
  exact ⟨c1.toInt.toNat, c2.toInt.toNat, y.toInt.toNat, by omega, by omega, by omega, by omega, by omega, by omega, by omega⟩
theorem own_n {tt ee : Int32} {t e : Nat} (ht : tt.toInt = (t : Int)) (he : ee.toInt = (e : Int)) (h1 : t ≤ 62) (h2 : e ≤ 15) : (((tt.toInt64 + ee.toInt64) + (7 : Int64)) / (8 : Int64)).toInt32.toInt = (((t + e + 7) / 8 : Nat) : Int) := by
  have z7 : (7 : Int64).toInt = 7 := rfl
  have a1 : (tt.toInt64 + ee.toInt64).toInt = (t : Int) + (e : Int) := by rw [Jvm.OwnW.add64 (by rw [c_i2l, c_i2l]; omega) (by rw [c_i2l, c_i2l]; omega), c_i2l, c_i2l, ht, he]
  have a2 : ((tt.toInt64 + ee.toInt64) + (7 : Int64)).toInt = (t : Int) + (e : Int) + 7 := by rw [Jvm.OwnW.add64 (by omega) (by omega), a1, z7]
  have a3 := (c_ldiv ((tt.toInt64 + ee.toInt64) + (7 : Int64)) 8 8 rfl (by decide)).1 (by omega)
  have a4 := c_l2i (((tt.toInt64 + ee.toInt64) + (7 : Int64)) / (8 : Int64))
  have a5 := rng32 (((tt.toInt64 + ee.toInt64) + (7 : Int64)) / (8 : Int64)).toInt32
  omega
theorem own_V {V1 V2 V3 y1 y2 y3 n1 n2 t1 t2 : Nat} (v1 : V1 = 0 + 0 * 256 ^ 0 + y1 * 2 ^ (8 * 0 + 0)) (v2 : V2 = V1 + y2 * 2 ^ t1) (v3 : V3 = V2 + y3 * 2 ^ t2) (e1 : t1 = n1) (e2 : t2 = n1 + n2) : V3 = y1 + y2 * 2 ^ n1 + y3 * 2 ^ (n1 + n2) := by
  subst e1 e2 v3 v2 v1
  simp
theorem own_arrN {args : Array Value} {s : State} {t : Term} {a : Addr} {ty : FieldType} {N : Nat} {z : Int32} (et : t.eval args s none [] s = some (.ref a)) (h1 : (Jvm.Cond.arrayOf t ty).before args s = true) (h2 : (Jvm.Cond.eq (.length t) (.int z)).before args s = true) (hz : z.toInt = (N : Int)) : ∃ c : Cell, s.arrayAt? a = some c ∧ Arr s s.heap a c ty ∧ c.slots.size = N := by
  obtain ⟨c, A⟩ := Arr.start et (Cond.before_iff.mp h1)
  have hat := A.fin (Vm.Alike.refl _)
  obtain ⟨q1, q2⟩ := lenEq et hat (Cond.before_iff.mp h2)
  have q3 := congrArg Int32.toInt q1
  rw [len_toInt q2] at q3
  exact ⟨c, hat, A, by omega⟩
theorem own_bigA {args : Array Value} {s : State} {t : Term} {k : Nat} {z : Int32} (hk : 0 < k) (hk2 : k < 4294967296) (hz : z = own_i k) (h1 : (Jvm.Cond.exactly t "java/math/BigInteger").before args s = true) (h2 : (Jvm.Cond.eq (.field t "java/math/BigInteger" "signum" "I") (.int 1)).before args s = true) (h3 : (Jvm.Cond.arrayOf (.field t "java/math/BigInteger" "mag" "[I") .int).before args s = true) (h4 : (Jvm.Cond.eq (.length (.field t "java/math/BigInteger" "mag" "[I")) (.int 1)).before args s = true) (h5 : (Jvm.Cond.eq (.elem (.field t "java/math/BigInteger" "mag" "[I") (.int 0)) (.int z)).before args s = true) : ∃ o, t.eval args s none [] s = some (.ref o) ∧ own_big s s.heap o k := by
  obtain ⟨o, eo⟩ := exa_v (Cond.before_iff.mp h1)
  have E := Exa.start eo (Cond.before_iff.mp h1)
  have F := Cond.eq_int h2 (Term.int_eval 1)
  rw [fld_at eo] at F
  obtain ⟨m, em⟩ := arr_v (Cond.before_iff.mp h3)
  have Fm := em
  rw [fld_at eo] at Fm
  obtain ⟨c, hat, A, hs⟩ := own_arrN (N := 1) em h3 h4 rfl
  have e0 := Cond.eq_int h5 (Term.int_eval z)
  rw [elem_f em (Term.int_eval 0) hat (by decide)] at e0
  have e1 : c.slots[0]? = some (.int z) := e0
  refine ⟨o, eo, E, m, Fld.start Fm, by rw [if_neg (by omega)]; exact Fld.start F, Or.inr (Or.inl ⟨hk, hk2, (Ar.of_arr' A hs (by decide)).congr fun j hj => ?_⟩)⟩
  obtain rfl : j = 0 := by omega
  rw [e1, hz]; rfl
theorem own_bigZ {args : Array Value} {s : State} {t : Term} (h1 : (Jvm.Cond.exactly t "java/math/BigInteger").before args s = true) (h2 : (Jvm.Cond.eq (.field t "java/math/BigInteger" "signum" "I") (.int 0)).before args s = true) (h3 : (Jvm.Cond.arrayOf (.field t "java/math/BigInteger" "mag" "[I") .int).before args s = true) (h4 : (Jvm.Cond.eq (.length (.field t "java/math/BigInteger" "mag" "[I")) (.int 0)).before args s = true) : ∃ o m, t.eval args s none [] s = some (.ref o) ∧ Fld s s.heap o "java/math/BigInteger" "mag" "[I" (.ref m) ∧ Ar s s.heap m .int 0 (lf []) ∧ own_big s s.heap o 0 := by
  obtain ⟨o, eo⟩ := exa_v (Cond.before_iff.mp h1)
  have E := Exa.start eo (Cond.before_iff.mp h1)
  have F := Cond.eq_int h2 (Term.int_eval 0)
  rw [fld_at eo] at F
  obtain ⟨m, em⟩ := arr_v (Cond.before_iff.mp h3)
  have Fm := em
  rw [fld_at eo] at Fm
  obtain ⟨c, hat, A, hs⟩ := own_arrN (N := 0) em h3 h4 rfl
  have A0 : Ar s s.heap m .int 0 (lf []) := (Ar.of_arr' A hs (by decide)).congr fun j hj => absurd hj (Nat.not_lt_zero j)
  exact ⟨o, m, eo, Fld.start Fm, A0, E, m, Fld.start Fm, by rw [if_pos rfl]; exact Fld.start F, Or.inl ⟨rfl, A0⟩⟩
theorem own_pc {args : Array Value} {s : State} {t : Term} {a : Addr} {c : Cell} {z : Int32} {k : Nat} (et : t.eval args s none [] s = some (.ref a)) (hat : s.arrayAt? a = some c) (hn : ¬ z < 0) (hk : z.toNatClampNeg = k) (h : ∃ o, (Term.elem t (.int z)).eval args s none [] s = some (.ref o) ∧ own_big s s.heap o k) : ∃ o, (c.slots[k]?).getD .null = .ref o ∧ own_big s s.heap o k := by
  obtain ⟨o, e, B⟩ := h
  rw [elem_f et (Term.int_eval z) hat hn, hk] at e
  exact ⟨o, by rw [e]; rfl, B⟩
theorem pd_8 : parseMethodDescriptor "(II)I" = some ⟨[.int, .int], some .int⟩ := by decide +kernel
theorem pd_9 : parseMethodDescriptor "(II)V" = some ⟨[.int, .int], none⟩ := by decide +kernel
theorem pd_10 : parseMethodDescriptor "()Ljava/math/BigInteger;" = some ⟨[], some (.object "java/math/BigInteger")⟩ := by decide +kernel
theorem pd_11 : parseMethodDescriptor "(J)Ljava/math/BigInteger;" = some ⟨[.long], some (.object "java/math/BigInteger")⟩ := by decide +kernel
theorem pd_12 : parseMethodDescriptor "(Ljava/lang/Object;)Z" = some ⟨[(.object "java/lang/Object")], some .boolean⟩ := by decide +kernel
theorem ef_0 (p0 : Int32) (p1 : Int32) (p2 : Int32) (p3 : Int32) (p4 : Int32) (zo zm pc : Addr) (m : MethodId) : entryFrame m #[(.int p0), (.int p1), (.int p2), (.int p3), (.int p4)] maxLocals = mkF m 0 #[.val (.int p0), .val (.int p1), .val (.int p2), .val (.int p3), .val (.int p4), .unset, .unset, .unset, .unset, .unset, .unset, .unset, .unset, .unset, .unset, .unset, .unset] [] := by first | (simp [entryFrame, mkF, argsToLocals, Value.category, maxLocals]; done) | rfl
theorem pn_0 : plainFor x = true := by first | exact plainFor_of_name (by first | (simp [plainName, overriddenIn]; done) | decide +kernel) | decide +kernel
set_option maxRecDepth 65536 in
set_option maxHeartbeats 40000000 in
theorem rm_0 (l : Launch) (Z : State) (a0 : Array Value) (hw : ∀ d ∈ tables_1, d.before a0 Z = true) (wds : List Jvm.Cond) (p0 : Int32) (p1 : Int32) (p2 : Int32) (p3 : Int32) (p4 : Int32) (zo zm pc : Addr) (fP : Nat → Value) (h0 : Heap) (S_Z : Sta Z h0 "java/math/BigInteger" "ZERO" "Ljava/math/BigInteger;" (.ref zo)) (F_mag_zo : Fld Z h0 zo "java/math/BigInteger" "mag" "[I" (.ref zm)) (V_zm : Ar Z h0 zm .int 0 (lf [])) (B_zo : own_big Z h0 zo 0) (S_P : Sta Z h0 "java/math/BigInteger" "posConst" "[Ljava/math/BigInteger;" (.ref pc)) (V_pc : Ar Z h0 pc (.object "java/math/BigInteger") 17 fP) (hPC : ∀ k, 1 ≤ k → k ≤ 16 → ∃ o, fP k = .ref o ∧ own_big Z h0 o k) :
    Met l Z x code maxLocals ret wds room_1 #[(.int p0), (.int p1), (.int p2), (.int p3), (.int p4)] [] h0 (fun v h => v = some (.int 1)) := by
  refine Met.mk pn_0 (ef_0 p0 p1 p2 p3 p4 zo zm pc) ?_
  intro C T hs0 O
  show Go C [] (fun v h => v = some (.int 1)) 24 128 (T.setTop (mkF C.m 0 #[.val (.int p0), .val (.int p1), .val (.int p2), .val (.int p3), .val (.int p4), .unset, .unset, .unset, .unset, .unset, .unset, .unset, .unset, .unset, .unset, .unset, .unset] []))
  refine Jvm.OwnW.iloadN O at_0 rfl (q := 1) rfl ?_
  refine Jvm.OwnW.bipush O at_1 (r := (31 : Int32)) rfl (q := 3) rfl ?_
  obtain ⟨wa, hwa⟩ : ∃ zz_, (p3 &&& (31 : Int32)) = zz_ := ⟨_, rfl⟩
  refine Jvm.OwnW.iand O at_3 hwa (q := 4) rfl ?_
  refine Jvm.OwnW.istore O at_4 (L' := #[.val (.int p0), .val (.int p1), .val (.int p2), .val (.int p3), .val (.int p4), .val (.int wa), .unset, .unset, .unset, .unset, .unset, .unset, .unset, .unset, .unset, .unset, .unset]) rfl (q := 6) rfl ?_
  refine Jvm.OwnW.iloadN O at_6 rfl (q := 7) rfl ?_
  refine Jvm.OwnW.iconst O at_7 (r := (5 : Int32)) rfl (q := 8) rfl ?_
  refine Jvm.OwnW.iushr O at_8 rfl (q := 9) rfl ?_
  refine Jvm.OwnW.bipush O at_9 (r := (31 : Int32)) rfl (q := 11) rfl ?_
  obtain ⟨wb, hwb⟩ : ∃ zz_, (((p3.toUInt32 >>> ((5 : Int32) &&& 31).toUInt32).toInt32) &&& (31 : Int32)) = zz_ := ⟨_, rfl⟩
  refine Jvm.OwnW.iand O at_11 hwb (q := 12) rfl ?_
  refine Jvm.OwnW.istore O at_12 (L' := #[.val (.int p0), .val (.int p1), .val (.int p2), .val (.int p3), .val (.int p4), .val (.int wa), .val (.int wb), .unset, .unset, .unset, .unset, .unset, .unset, .unset, .unset, .unset, .unset]) rfl (q := 14) rfl ?_
  refine Jvm.OwnW.iconst O at_14 (r := (0 : Int32)) rfl (q := 15) rfl ?_
  refine Jvm.OwnW.iloadN O at_15 rfl (q := 16) rfl ?_
  refine Jvm.OwnW.bipush O at_16 (r := (10 : Int32)) rfl (q := 18) rfl ?_
  refine Jvm.OwnW.iushr O at_18 rfl (q := 19) rfl ?_
  refine Jvm.OwnW.bipush O at_19 (r := (31 : Int32)) rfl (q := 21) rfl ?_
  obtain ⟨wr, hwr⟩ : ∃ zz_, (((p3.toUInt32 >>> ((10 : Int32) &&& 31).toUInt32).toInt32) &&& (31 : Int32)) = zz_ := ⟨_, rfl⟩
  refine Jvm.OwnW.iand O at_21 hwr (q := 22) rfl ?_
  refine Jvm.OwnW.bipush O at_22 (r := (62 : Int32)) rfl (q := 24) rfl ?_
  refine Jvm.OwnW.iload O at_24 rfl (q := 26) rfl ?_
  refine Jvm.OwnW.isub O at_26 rfl (q := 27) rfl ?_
  refine Jvm.OwnW.iload O at_27 rfl (q := 29) rfl ?_
  obtain ⟨wl, hwl⟩ : ∃ zz_, (((62 : Int32) - wa) - wb) = zz_ := ⟨_, rfl⟩
  refine Jvm.OwnW.isub O at_29 hwl (q := 30) rfl ?_
  refine Jvm.OwnW.callS0 O (y := (⟨"java/lang/Math", "min", "(II)I"⟩ : MethodName)) (argsL := [(.int wr), (.int wl)]) (rest := [(.int (0 : Int32))]) at_30 (hw _ (List.mem_of_getElem? (i := 0) rfl)) (hw _ (List.mem_of_getElem? (i := 1) rfl)) (hw _ (List.mem_of_getElem? (i := 2) rfl)) (hw _ (List.mem_of_getElem? (i := 3) rfl)) (by decide) (rm_n l Z a0 hw wr wl h0) rfl pd_8 rfl (hst := rfl) (W := 1) (Nat.le_of_eq rfl) (by decide) (by decide) (c2 := 0) (s2 := 0) rfl rfl (by decide) (by decide) rfl rfl (q := 33) rfl ?_
  intro v1 T1 O1 q1
  obtain rfl := q1
  show Go C _ _ _ _ (T1.setTop (mkF C.m 33 #[.val (.int p0), .val (.int p1), .val (.int p2), .val (.int p3), .val (.int p4), .val (.int wa), .val (.int wb), .unset, .unset, .unset, .unset, .unset, .unset, .unset, .unset, .unset, .unset] [(.int (fn_n wr wl)), (.int (0 : Int32))]))
  refine Jvm.OwnW.callS0 O1 (y := (⟨"java/lang/Math", "max", "(II)I"⟩ : MethodName)) (argsL := [(.int (0 : Int32)), (.int (fn_n wr wl))]) (rest := []) at_33 (hw _ (List.mem_of_getElem? (i := 4) rfl)) (hw _ (List.mem_of_getElem? (i := 5) rfl)) (hw _ (List.mem_of_getElem? (i := 2) rfl)) (hw _ (List.mem_of_getElem? (i := 6) rfl)) (by decide) (rm_x l Z a0 hw (0 : Int32) (fn_n wr wl) h0) rfl pd_8 rfl (hst := rfl) (W := 0) (Nat.le_of_eq rfl) (by decide) (by decide) (c2 := 0) (s2 := 0) rfl rfl (by decide) (by decide) rfl rfl (q := 36) rfl ?_
  intro v2 T2 O2 q2
  obtain rfl := q2
  show Go C _ _ _ _ (T2.setTop (mkF C.m 36 #[.val (.int p0), .val (.int p1), .val (.int p2), .val (.int p3), .val (.int p4), .val (.int wa), .val (.int wb), .unset, .unset, .unset, .unset, .unset, .unset, .unset, .unset, .unset, .unset] [(.int (fn_x (0 : Int32) (fn_n wr wl)))]))
  obtain ⟨wc, hwc⟩ : ∃ zz_, (fn_x (0 : Int32) (fn_n wr wl)) = zz_ := ⟨_, rfl⟩
  rw [hwc]
  obtain ⟨n1, n2, n3, hk1, hk2, hk3, l1, l2, l3, l62⟩ := own_c3 wa wb wr (hwa ▸ own_and31 _) (hwb ▸ own_and31 _) (hwr ▸ own_and31 _)
  rw [hwl, hwc] at hk3
  refine Jvm.OwnW.istore O2 at_36 (L' := #[.val (.int p0), .val (.int p1), .val (.int p2), .val (.int p3), .val (.int p4), .val (.int wa), .val (.int wb), .val (.int wc), .unset, .unset, .unset, .unset, .unset, .unset, .unset, .unset, .unset]) rfl (q := 38) rfl ?_
  refine Jvm.OwnW.iloadN O2 at_38 rfl (q := 39) rfl ?_
  refine Jvm.OwnW.iload O2 at_39 rfl (q := 41) rfl ?_
  refine Jvm.OwnW.callS0 O2 (y := (⟨"com/example/vary5/vary5/MagnitudeBytesAddPinLaw", "low", "(II)I"⟩ : MethodName)) (argsL := [(.int p0), (.int wa)]) (rest := []) at_41 (hw _ (List.mem_of_getElem? (i := 7) rfl)) (hw _ (List.mem_of_getElem? (i := 8) rfl)) (hw _ (List.mem_of_getElem? (i := 9) rfl)) (hw _ (List.mem_of_getElem? (i := 10) rfl)) (by decide) (rm_w l Z a0 hw p0 wa h0) rfl pd_8 rfl (hst := rfl) (W := 0) (Nat.le_of_eq rfl) (by decide) (by decide) (c2 := 0) (s2 := 0) rfl rfl (by decide) (by decide) rfl rfl (q := 44) rfl ?_
  intro v3 T3 O3 q3
  obtain rfl := q3
  show Go C _ _ _ _ (T3.setTop (mkF C.m 44 #[.val (.int p0), .val (.int p1), .val (.int p2), .val (.int p3), .val (.int p4), .val (.int wa), .val (.int wb), .val (.int wc), .unset, .unset, .unset, .unset, .unset, .unset, .unset, .unset, .unset] [(.int (fn_w p0 wa))]))
  obtain ⟨x1, hx1⟩ : ∃ zz_, (fn_w p0 wa) = zz_ := ⟨_, rfl⟩
  rw [hx1]
  obtain ⟨y1, hy1, ly1⟩ := own_low p0 wa hk1 l1
  rw [hx1] at hy1
  refine Jvm.OwnW.istore O3 at_44 (L' := #[.val (.int p0), .val (.int p1), .val (.int p2), .val (.int p3), .val (.int p4), .val (.int wa), .val (.int wb), .val (.int wc), .val (.int x1), .unset, .unset, .unset, .unset, .unset, .unset, .unset, .unset]) rfl (q := 46) rfl ?_
  refine Jvm.OwnW.iloadN O3 at_46 rfl (q := 47) rfl ?_
  refine Jvm.OwnW.iload O3 at_47 rfl (q := 49) rfl ?_
  refine Jvm.OwnW.callS0 O3 (y := (⟨"com/example/vary5/vary5/MagnitudeBytesAddPinLaw", "low", "(II)I"⟩ : MethodName)) (argsL := [(.int p1), (.int wb)]) (rest := []) at_49 (hw _ (List.mem_of_getElem? (i := 7) rfl)) (hw _ (List.mem_of_getElem? (i := 8) rfl)) (hw _ (List.mem_of_getElem? (i := 9) rfl)) (hw _ (List.mem_of_getElem? (i := 10) rfl)) (by decide) (rm_w l Z a0 hw p1 wb h0) rfl pd_8 rfl (hst := rfl) (W := 0) (Nat.le_of_eq rfl) (by decide) (by decide) (c2 := 0) (s2 := 0) rfl rfl (by decide) (by decide) rfl rfl (q := 52) rfl ?_
  intro v4 T4 O4 q4
  obtain rfl := q4
  show Go C _ _ _ _ (T4.setTop (mkF C.m 52 #[.val (.int p0), .val (.int p1), .val (.int p2), .val (.int p3), .val (.int p4), .val (.int wa), .val (.int wb), .val (.int wc), .val (.int x1), .unset, .unset, .unset, .unset, .unset, .unset, .unset, .unset] [(.int (fn_w p1 wb))]))
  obtain ⟨x2, hx2⟩ : ∃ zz_, (fn_w p1 wb) = zz_ := ⟨_, rfl⟩
  rw [hx2]
  obtain ⟨y2, hy2, ly2⟩ := own_low p1 wb hk2 l2
  rw [hx2] at hy2
  refine Jvm.OwnW.istore O4 at_52 (L' := #[.val (.int p0), .val (.int p1), .val (.int p2), .val (.int p3), .val (.int p4), .val (.int wa), .val (.int wb), .val (.int wc), .val (.int x1), .val (.int x2), .unset, .unset, .unset, .unset, .unset, .unset, .unset]) rfl (q := 54) rfl ?_
  refine Jvm.OwnW.iloadN O4 at_54 rfl (q := 55) rfl ?_
  refine Jvm.OwnW.iload O4 at_55 rfl (q := 57) rfl ?_
  refine Jvm.OwnW.callS0 O4 (y := (⟨"com/example/vary5/vary5/MagnitudeBytesAddPinLaw", "low", "(II)I"⟩ : MethodName)) (argsL := [(.int p2), (.int wc)]) (rest := []) at_57 (hw _ (List.mem_of_getElem? (i := 7) rfl)) (hw _ (List.mem_of_getElem? (i := 8) rfl)) (hw _ (List.mem_of_getElem? (i := 9) rfl)) (hw _ (List.mem_of_getElem? (i := 10) rfl)) (by decide) (rm_w l Z a0 hw p2 wc h0) rfl pd_8 rfl (hst := rfl) (W := 0) (Nat.le_of_eq rfl) (by decide) (by decide) (c2 := 0) (s2 := 0) rfl rfl (by decide) (by decide) rfl rfl (q := 60) rfl ?_
  intro v5 T5 O5 q5
  obtain rfl := q5
  show Go C _ _ _ _ (T5.setTop (mkF C.m 60 #[.val (.int p0), .val (.int p1), .val (.int p2), .val (.int p3), .val (.int p4), .val (.int wa), .val (.int wb), .val (.int wc), .val (.int x1), .val (.int x2), .unset, .unset, .unset, .unset, .unset, .unset, .unset] [(.int (fn_w p2 wc))]))
  obtain ⟨x3, hx3⟩ : ∃ zz_, (fn_w p2 wc) = zz_ := ⟨_, rfl⟩
  rw [hx3]
  obtain ⟨y3, hy3, ly3⟩ := own_low p2 wc hk3 l3
  rw [hx3] at hy3
  refine Jvm.OwnW.istore O5 at_60 (L' := #[.val (.int p0), .val (.int p1), .val (.int p2), .val (.int p3), .val (.int p4), .val (.int wa), .val (.int wb), .val (.int wc), .val (.int x1), .val (.int x2), .val (.int x3), .unset, .unset, .unset, .unset, .unset, .unset]) rfl (q := 62) rfl ?_
  refine Jvm.OwnW.iload O5 at_62 rfl (q := 64) rfl ?_
  refine Jvm.OwnW.iload O5 at_64 rfl (q := 66) rfl ?_
  refine Jvm.OwnW.iadd O5 at_66 rfl (q := 67) rfl ?_
  refine Jvm.OwnW.iload O5 at_67 rfl (q := 69) rfl ?_
  obtain ⟨tt, htt⟩ : ∃ zz_, ((wa + wb) + wc) = zz_ := ⟨_, rfl⟩
  refine Jvm.OwnW.iadd O5 at_69 htt (q := 70) rfl ?_
  refine Jvm.OwnW.i2l O5 at_70 rfl (q := 71) rfl ?_
  refine Jvm.OwnW.lstore O5 at_71 (L' := #[.val (.int p0), .val (.int p1), .val (.int p2), .val (.int p3), .val (.int p4), .val (.int wa), .val (.int wb), .val (.int wc), .val (.int x1), .val (.int x2), .val (.int x3), .val (.long tt.toInt64), .second, .unset, .unset, .unset, .unset]) rfl (q := 73) rfl ?_
  refine Jvm.OwnW.newO O5 at_73 (hw _ (List.mem_of_getElem? (i := 11) rfl)) (hw _ (List.mem_of_getElem? (i := 12) rfl)) (hw _ (List.mem_of_getElem? (i := 13) rfl)) (c2 := 1) (s2 := 4) rfl rfl (by decide) (by decide) (q := 76) rfl ?_
  intro nb6 T6 h6 g6 N6 O6 X6 E_nb6 D6
  have F_bytes_nb6 : Fld Z h6 nb6 "com/example/vary5/vary5/MagnitudeBytes" "bytes" "[B" .null := D6 (Or.inr (hw _ (List.mem_of_getElem? (i := 24) rfl))) (ty := (.array .byte)) (by decide)
  have F_index_nb6 : Fld Z h6 nb6 "com/example/vary5/vary5/MagnitudeBytes" "index" "I" (.int (0 : Int32)) := D6 (Or.inl (hw _ (List.mem_of_getElem? (i := 26) rfl))) (ty := .int) (by decide)
  have F_pending_nb6 : Fld Z h6 nb6 "com/example/vary5/vary5/MagnitudeBytes" "pending" "J" (.long (0 : Int64)) := D6 (Or.inl (hw _ (List.mem_of_getElem? (i := 33) rfl))) (ty := .long) (by decide)
  have F_pendingBits_nb6 : Fld Z h6 nb6 "com/example/vary5/vary5/MagnitudeBytes" "pendingBits" "I" (.int (0 : Int32)) := D6 (Or.inl (hw _ (List.mem_of_getElem? (i := 35) rfl))) (ty := .int) (by decide)
  refine Jvm.OwnW.dup O6 at_76 rfl (q := 77) rfl ?_
  refine Jvm.OwnW.lload O6 at_77 rfl (q := 79) rfl ?_
  refine Jvm.OwnW.iload O6 at_79 rfl (q := 81) rfl ?_
  refine Jvm.OwnW.bipush O6 at_81 (r := (15 : Int32)) rfl (q := 83) rfl ?_
  obtain ⟨ee, hee⟩ : ∃ zz_, (p4 &&& (15 : Int32)) = zz_ := ⟨_, rfl⟩
  refine Jvm.OwnW.iand O6 at_83 hee (q := 84) rfl ?_
  refine Jvm.OwnW.i2l O6 at_84 rfl (q := 85) rfl ?_
  obtain ⟨tot, htot⟩ : ∃ zz_, (tt.toInt64 + ee.toInt64) = zz_ := ⟨_, rfl⟩
  refine Jvm.OwnW.ladd O6 at_85 htot (q := 86) rfl ?_
  have ht := own_pbc (own_pbc hk1 hk2 (by omega) (by omega)) hk3 (by omega) (by omega)
  rw [htt] at ht
  obtain ⟨e, he, le⟩ : ∃ e : Nat, ee.toInt = (e : Int) ∧ e ≤ 15 := by
    have q := c_and p4 15 (by decide)
    rw [hee] at q
    have z : (15 : Int32).toInt = 15 := rfl
    exact ⟨ee.toInt.toNat, by omega, by omega⟩
  have hn := own_n ht he (by omega) (by omega)
  rw [htot] at hn
  obtain ⟨n, hnd⟩ : ∃ n, (n1 + n2 + n3 + e + 7) / 8 = n := ⟨_, rfl⟩
  rw [hnd] at hn
  have hn10 : n ≤ 10 := by omega
  have hfit : n1 + n2 + n3 ≤ 8 * n := by omega
  have lt_nb6 := E_nb6.lt
  refine Jvm.OwnW.callI O6 (y := (⟨"com/example/vary5/vary5/MagnitudeBytes", "<init>", "(J)V"⟩ : MethodName)) (a := nb6) (argsL := [(.long tot)]) (rest := [(.ref nb6)]) at_86 rfl (hw _ (List.mem_of_getElem? (i := 14) rfl)) (hw _ (List.mem_of_getElem? (i := 15) rfl)) (hw _ (List.mem_of_getElem? (i := 13) rfl)) (hw _ (List.mem_of_getElem? (i := 16) rfl)) (by decide) (rm_i l Z a0 hw nb6 tot n h6 E_nb6 F_bytes_nb6 F_index_nb6 F_pending_nb6 F_pendingBits_nb6 hn hn10) rfl pd_7 rfl (hst := rfl) (W := 1) (Nat.le_of_eq rfl) (by decide) (by decide) (c2 := 2) (s2 := 14) rfl rfl (by decide) (by decide) (allS (Or.inr N6) all0) (q := 89) rfl ?_
  intro v7 T7 h7 O7 K7 q7
  obtain ⟨rfl, ab, zx, m_ab, hzx, F_bytes_nb6, F_index_nb6, F_pending_nb6, F_pendingBits_nb6, V_ab⟩ := q7
  have E_nb6 := E_nb6.keep K7
  have N_ab : C.s.heap.size ≤ ab := Nat.le_trans O6.size m_ab
  have ne_nb6_ab : nb6 ≠ ab := Nat.ne_of_lt (Nat.lt_of_lt_of_le lt_nb6 m_ab)
  show Go C _ _ _ _ (T7.setTop (mkF C.m 89 #[.val (.int p0), .val (.int p1), .val (.int p2), .val (.int p3), .val (.int p4), .val (.int wa), .val (.int wb), .val (.int wc), .val (.int x1), .val (.int x2), .val (.int x3), .val (.long tt.toInt64), .second, .unset, .unset, .unset, .unset] [(.ref nb6)]))
  refine Jvm.OwnW.astore O7 at_89 rfl (L' := #[.val (.int p0), .val (.int p1), .val (.int p2), .val (.int p3), .val (.int p4), .val (.int wa), .val (.int wb), .val (.int wc), .val (.int x1), .val (.int x2), .val (.int x3), .val (.long tt.toInt64), .second, .val (.ref nb6), .unset, .unset, .unset]) rfl (q := 91) rfl ?_
  refine Jvm.OwnW.aload O7 at_91 rfl rfl (q := 93) rfl ?_
  refine Jvm.OwnW.iload O7 at_93 rfl (q := 95) rfl ?_
  refine Jvm.OwnW.iload O7 at_95 rfl (q := 97) rfl ?_
  refine Jvm.OwnW.callV O7 (y := (⟨"com/example/vary5/vary5/MagnitudeBytes", "add", "(II)V"⟩ : MethodName)) (z := (⟨"com/example/vary5/vary5/MagnitudeBytes", "add", "(II)V"⟩ : MethodName)) (a := nb6) (argsL := [(.int x1), (.int wa)]) (rest := []) at_97 (hw _ (List.mem_of_getElem? (i := 27) rfl)) (hw _ (List.mem_of_getElem? (i := 28) rfl)) (hw _ (List.mem_of_getElem? (i := 30) rfl)) rfl (hw _ (List.mem_of_getElem? (i := 29) rfl)) (hw _ (List.mem_of_getElem? (i := 13) rfl)) (hw _ (List.mem_of_getElem? (i := 31) rfl)) (by decide) (rm_a l Z a0 hw nb6 x1 wa ab zx (0 : Int32) (0 : Int64) n 0 0 0 0 y1 n1 h7 E_nb6 F_bytes_nb6 F_index_nb6 F_pending_nb6 F_pendingBits_nb6 V_ab ne_nb6_ab ⟨hzx, rfl, rfl, by decide, by decide, by decide⟩ hy1 ly1 hk1 (by omega) (by omega) hn10) E_nb6 rfl pd_9 rfl (hst := rfl) (W := 0) (Nat.le_of_eq rfl) (by decide) (by decide) (c2 := 2) (s2 := 14) rfl rfl (by decide) (by decide) (allS (Or.inr N6) (allS (Or.inr N_ab) all0)) (q := 100) rfl ?_
  intro v8 T8 h8 O8 K8 q8
  obtain ⟨rfl, W1, P1, j1, b1, ix1, pb1, pe1, st1, t1, u1, F_bytes_nb6, F_index_nb6, F_pending_nb6, F_pendingBits_nb6, V_ab⟩ := q8
  have E_nb6 := E_nb6.keep K8
  show Go C _ _ _ _ (T8.setTop (mkF C.m 100 #[.val (.int p0), .val (.int p1), .val (.int p2), .val (.int p3), .val (.int p4), .val (.int wa), .val (.int wb), .val (.int wc), .val (.int x1), .val (.int x2), .val (.int x3), .val (.long tt.toInt64), .second, .val (.ref nb6), .unset, .unset, .unset] []))
  refine Jvm.OwnW.aload O8 at_100 rfl rfl (q := 102) rfl ?_
  refine Jvm.OwnW.iload O8 at_102 rfl (q := 104) rfl ?_
  refine Jvm.OwnW.iload O8 at_104 rfl (q := 106) rfl ?_
  refine Jvm.OwnW.callV O8 (y := (⟨"com/example/vary5/vary5/MagnitudeBytes", "add", "(II)V"⟩ : MethodName)) (z := (⟨"com/example/vary5/vary5/MagnitudeBytes", "add", "(II)V"⟩ : MethodName)) (a := nb6) (argsL := [(.int x2), (.int wb)]) (rest := []) at_106 (hw _ (List.mem_of_getElem? (i := 27) rfl)) (hw _ (List.mem_of_getElem? (i := 28) rfl)) (hw _ (List.mem_of_getElem? (i := 30) rfl)) rfl (hw _ (List.mem_of_getElem? (i := 29) rfl)) (hw _ (List.mem_of_getElem? (i := 13) rfl)) (hw _ (List.mem_of_getElem? (i := 31) rfl)) (by decide) (rm_a l Z a0 hw nb6 x2 wb ab ix1 pb1 pe1 n W1 P1 j1 b1 y2 n2 h8 E_nb6 F_bytes_nb6 F_index_nb6 F_pending_nb6 F_pendingBits_nb6 V_ab ne_nb6_ab st1 hy2 ly2 hk2 (by omega) (by omega) hn10) E_nb6 rfl pd_9 rfl (hst := rfl) (W := 0) (Nat.le_of_eq rfl) (by decide) (by decide) (c2 := 2) (s2 := 14) rfl rfl (by decide) (by decide) (allS (Or.inr N6) (allS (Or.inr N_ab) all0)) (q := 109) rfl ?_
  intro v9 T9 h9 O9 K9 q9
  obtain ⟨rfl, W2, P2, j2, b2, ix2, pb2, pe2, st2, t2, u2, F_bytes_nb6, F_index_nb6, F_pending_nb6, F_pendingBits_nb6, V_ab⟩ := q9
  have E_nb6 := E_nb6.keep K9
  show Go C _ _ _ _ (T9.setTop (mkF C.m 109 #[.val (.int p0), .val (.int p1), .val (.int p2), .val (.int p3), .val (.int p4), .val (.int wa), .val (.int wb), .val (.int wc), .val (.int x1), .val (.int x2), .val (.int x3), .val (.long tt.toInt64), .second, .val (.ref nb6), .unset, .unset, .unset] []))
  refine Jvm.OwnW.aload O9 at_109 rfl rfl (q := 111) rfl ?_
  refine Jvm.OwnW.iload O9 at_111 rfl (q := 113) rfl ?_
  refine Jvm.OwnW.iload O9 at_113 rfl (q := 115) rfl ?_
  refine Jvm.OwnW.callV O9 (y := (⟨"com/example/vary5/vary5/MagnitudeBytes", "add", "(II)V"⟩ : MethodName)) (z := (⟨"com/example/vary5/vary5/MagnitudeBytes", "add", "(II)V"⟩ : MethodName)) (a := nb6) (argsL := [(.int x3), (.int wc)]) (rest := []) at_115 (hw _ (List.mem_of_getElem? (i := 27) rfl)) (hw _ (List.mem_of_getElem? (i := 28) rfl)) (hw _ (List.mem_of_getElem? (i := 30) rfl)) rfl (hw _ (List.mem_of_getElem? (i := 29) rfl)) (hw _ (List.mem_of_getElem? (i := 13) rfl)) (hw _ (List.mem_of_getElem? (i := 31) rfl)) (by decide) (rm_a l Z a0 hw nb6 x3 wc ab ix2 pb2 pe2 n W2 P2 j2 b2 y3 n3 h9 E_nb6 F_bytes_nb6 F_index_nb6 F_pending_nb6 F_pendingBits_nb6 V_ab ne_nb6_ab st2 hy3 ly3 hk3 (by omega) (by omega) hn10) E_nb6 rfl pd_9 rfl (hst := rfl) (W := 0) (Nat.le_of_eq rfl) (by decide) (by decide) (c2 := 2) (s2 := 14) rfl rfl (by decide) (by decide) (allS (Or.inr N6) (allS (Or.inr N_ab) all0)) (q := 118) rfl ?_
  intro v10 T10 h10 O10 K10 q10
  obtain ⟨rfl, W3, P3, j3, b3, ix3, pb3, pe3, st3, t3, u3, F_bytes_nb6, F_index_nb6, F_pending_nb6, F_pendingBits_nb6, V_ab⟩ := q10
  have E_nb6 := E_nb6.keep K10
  show Go C _ _ _ _ (T10.setTop (mkF C.m 118 #[.val (.int p0), .val (.int p1), .val (.int p2), .val (.int p3), .val (.int p4), .val (.int wa), .val (.int wb), .val (.int wc), .val (.int x1), .val (.int x2), .val (.int x3), .val (.long tt.toInt64), .second, .val (.ref nb6), .unset, .unset, .unset] []))
  refine Jvm.OwnW.aload O10 at_118 rfl rfl (q := 120) rfl ?_
  have KK : Keep h0 h10 [] := by
    have q := O10.kept
    rw [hs0] at q; exact q
  have nzb : zo ≠ ab := Nat.ne_of_lt (Nat.lt_of_lt_of_le F_mag_zo.lt (hs0 ▸ N_ab))
  have nmb : zm ≠ ab := Nat.ne_of_lt (Nat.lt_of_lt_of_le V_zm.lt (hs0 ▸ N_ab))
  refine Jvm.OwnW.callV O10 (y := (⟨"com/example/vary5/vary5/MagnitudeBytes", "toBigInteger", "()Ljava/math/BigInteger;"⟩ : MethodName)) (z := (⟨"com/example/vary5/vary5/MagnitudeBytes", "toBigInteger", "()Ljava/math/BigInteger;"⟩ : MethodName)) (a := nb6) (argsL := []) (rest := []) at_120 (hw _ (List.mem_of_getElem? (i := 36) rfl)) (hw _ (List.mem_of_getElem? (i := 37) rfl)) (hw _ (List.mem_of_getElem? (i := 39) rfl)) rfl (hw _ (List.mem_of_getElem? (i := 38) rfl)) (hw _ (List.mem_of_getElem? (i := 13) rfl)) (hw _ (List.mem_of_getElem? (i := 40) rfl)) (by decide) (rm_t l Z a0 hw nb6 ab ix3 pb3 zx pe3 zo zm n W3 P3 j3 b3 h10 E_nb6 F_bytes_nb6 F_index_nb6 F_pending_nb6 F_pendingBits_nb6 V_ab (staKeep S_Z KK) (F_mag_zo.keep KK nin0) (V_zm.keep KK nin0) ne_nb6_ab nzb nmb st3 (by omega) (by omega) hzx hn10) E_nb6 rfl pd_10 rfl (hst := rfl) (W := 0) (Nat.le_of_eq rfl) (by decide) (by decide) (c2 := 4) (s2 := 22) rfl rfl (by decide) (by decide) (allS (Or.inr N_ab) all0) (q := 123) rfl ?_
  intro v11 T11 h11 O11 K11 q11
  obtain ⟨rr, rfl, m_rr, B_rr⟩ := q11
  have E_nb6 := E_nb6.keep K11
  have F_bytes_nb6 := F_bytes_nb6.keep K11 (ninS ne_nb6_ab nin0)
  have F_index_nb6 := F_index_nb6.keep K11 (ninS ne_nb6_ab nin0)
  have F_pending_nb6 := F_pending_nb6.keep K11 (ninS ne_nb6_ab nin0)
  have F_pendingBits_nb6 := F_pendingBits_nb6.keep K11 (ninS ne_nb6_ab nin0)
  obtain ⟨E_rr, -⟩ := id B_rr
  show Go C _ _ _ _ (T11.setTop (mkF C.m 123 #[.val (.int p0), .val (.int p1), .val (.int p2), .val (.int p3), .val (.int p4), .val (.int wa), .val (.int wb), .val (.int wc), .val (.int x1), .val (.int x2), .val (.int x3), .val (.long tt.toInt64), .second, .val (.ref nb6), .unset, .unset, .unset] [(.ref rr)]))
  refine Jvm.OwnW.astore O11 at_123 rfl (L' := #[.val (.int p0), .val (.int p1), .val (.int p2), .val (.int p3), .val (.int p4), .val (.int wa), .val (.int wb), .val (.int wc), .val (.int x1), .val (.int x2), .val (.int x3), .val (.long tt.toInt64), .second, .val (.ref nb6), .val (.ref rr), .unset, .unset]) rfl (q := 125) rfl ?_
  refine Jvm.OwnW.iload O11 at_125 rfl (q := 127) rfl ?_
  refine Jvm.OwnW.i2l O11 at_127 rfl (q := 128) rfl ?_
  refine Jvm.OwnW.iload O11 at_128 rfl (q := 130) rfl ?_
  refine Jvm.OwnW.i2l O11 at_130 rfl (q := 131) rfl ?_
  refine Jvm.OwnW.iload O11 at_131 rfl (q := 133) rfl ?_
  refine Jvm.OwnW.lshl O11 at_133 rfl (q := 134) rfl ?_
  refine Jvm.OwnW.lor O11 at_134 rfl (q := 135) rfl ?_
  refine Jvm.OwnW.iload O11 at_135 rfl (q := 137) rfl ?_
  refine Jvm.OwnW.i2l O11 at_137 rfl (q := 138) rfl ?_
  refine Jvm.OwnW.iload O11 at_138 rfl (q := 140) rfl ?_
  refine Jvm.OwnW.iload O11 at_140 rfl (q := 142) rfl ?_
  obtain ⟨wab, hwab⟩ : ∃ zz_, (wa + wb) = zz_ := ⟨_, rfl⟩
  refine Jvm.OwnW.iadd O11 at_142 hwab (q := 143) rfl ?_
  refine Jvm.OwnW.lshl O11 at_143 rfl (q := 144) rfl ?_
  obtain ⟨ev, hev⟩ : ∃ zz_, ((x1.toInt64 ||| (x2.toInt64 <<< (wa &&& 0x3f).toInt64)) ||| (x3.toInt64 <<< (wab &&& 0x3f).toInt64)) = zz_ := ⟨_, rfl⟩
  refine Jvm.OwnW.lor O11 at_144 hev (q := 145) rfl ?_
  refine Jvm.OwnW.lstore O11 at_145 (L' := #[.val (.int p0), .val (.int p1), .val (.int p2), .val (.int p3), .val (.int p4), .val (.int wa), .val (.int wb), .val (.int wc), .val (.int x1), .val (.int x2), .val (.int x3), .val (.long tt.toInt64), .second, .val (.ref nb6), .val (.ref rr), .val (.long ev), .second]) rfl (q := 147) rfl ?_
  refine Jvm.OwnW.aload O11 at_147 rfl rfl (q := 149) rfl ?_
  refine Jvm.OwnW.lload O11 at_149 rfl (q := 151) rfl ?_
  have hr1 := own_or (pe := x1.toInt64) (by rw [c_i2l]; exact hy1) hk1 ly1 hy2 ly2 (by omega)
  have h12 := own_pbc hk1 hk2 (by omega) (by omega)
  rw [hwab] at h12
  have hr2 := own_or hr1.1 h12 hr1.2 hy3 ly3 (by omega)
  rw [hev] at hr2
  rw [own_V (n1 := n1) (n2 := n2) u1 u2 u3 (by omega) (by omega)] at B_rr
  obtain ⟨V, hVd⟩ : ∃ V, y1 + y2 * 2 ^ n1 + y3 * 2 ^ (n1 + n2) = V := ⟨_, rfl⟩
  rw [hVd] at B_rr hr2
  have hp := hr2.1
  have KK : Keep h0 h11 [] := by
    have q := O11.kept
    rw [hs0] at q; exact q
  rcases (show V = 0 ∨ (0 < V ∧ V ≤ 16) ∨ 16 < V by omega) with hV0 | ⟨hV0, hV16⟩ | hV16
  · skip
    refine Jvm.OwnW.callS0 O11 (y := (⟨"java/math/BigInteger", "valueOf", "(J)Ljava/math/BigInteger;"⟩ : MethodName)) (argsL := [(.long ev)]) (rest := [(.ref rr)]) at_151 (hw _ (List.mem_of_getElem? (i := 79) rfl)) (hw _ (List.mem_of_getElem? (i := 80) rfl)) (hw _ (List.mem_of_getElem? (i := 43) rfl)) (hw _ (List.mem_of_getElem? (i := 81) rfl)) (by decide) (rm_v0 l Z a0 hw ev zo h11 (staKeep S_Z KK) (eq64 (by rw [hp, hV0]; rfl))) rfl pd_11 rfl (hst := rfl) (W := 1) (Nat.le_of_eq rfl) (by decide) (by decide) (c2 := 4) (s2 := 22) rfl rfl (by decide) (by decide) rfl rfl (q := 154) rfl ?_
    intro v12 T12 O12 q12
    obtain rfl := q12
    show Go C _ _ _ _ (T12.setTop (mkF C.m 154 #[.val (.int p0), .val (.int p1), .val (.int p2), .val (.int p3), .val (.int p4), .val (.int wa), .val (.int wb), .val (.int wc), .val (.int x1), .val (.int x2), .val (.int x3), .val (.long tt.toInt64), .second, .val (.ref nb6), .val (.ref rr), .val (.long ev), .second] [(.ref zo), (.ref rr)]))
    refine Jvm.OwnW.callV0 O12 (y := (⟨"java/math/BigInteger", "equals", "(Ljava/lang/Object;)Z"⟩ : MethodName)) (z := (⟨"java/math/BigInteger", "equals", "(Ljava/lang/Object;)Z"⟩ : MethodName)) (a := rr) (argsL := [(.ref zo)]) (rest := []) at_154 (hw _ (List.mem_of_getElem? (i := 82) rfl)) (hw _ (List.mem_of_getElem? (i := 83) rfl)) (hw _ (List.mem_of_getElem? (i := 85) rfl)) rfl (hw _ (List.mem_of_getElem? (i := 84) rfl)) (hw _ (List.mem_of_getElem? (i := 43) rfl)) (hw _ (List.mem_of_getElem? (i := 86) rfl)) (by decide) (rm_e l Z a0 hw rr zo V h11 B_rr (hV0 ▸ B_zo.keep KK)) E_rr rfl pd_12 rfl (hst := rfl) (W := 0) (Nat.le_of_eq rfl) (by decide) (by decide) (c2 := 4) (s2 := 22) rfl rfl (by decide) (by decide) rfl rfl (q := 157) rfl ?_
    intro v13 T13 O13 q13
    obtain rfl := q13
    show Go C _ _ _ _ (T13.setTop (mkF C.m 157 #[.val (.int p0), .val (.int p1), .val (.int p2), .val (.int p3), .val (.int p4), .val (.int wa), .val (.int wb), .val (.int wc), .val (.int x1), .val (.int x2), .val (.int x3), .val (.long tt.toInt64), .second, .val (.ref nb6), .val (.ref rr), .val (.long ev), .second] [(.int (1 : Int32))]))
    exact Jvm.OwnW.retB O13 at_157 rfl (Or.inr rfl) (by decide) (by decide) rfl
  · skip
    obtain ⟨o, hfo, B_o⟩ := hPC V hV0 hV16
    refine Jvm.OwnW.callS0 O11 (y := (⟨"java/math/BigInteger", "valueOf", "(J)Ljava/math/BigInteger;"⟩ : MethodName)) (argsL := [(.long ev)]) (rest := [(.ref rr)]) at_151 (hw _ (List.mem_of_getElem? (i := 79) rfl)) (hw _ (List.mem_of_getElem? (i := 80) rfl)) (hw _ (List.mem_of_getElem? (i := 43) rfl)) (hw _ (List.mem_of_getElem? (i := 81) rfl)) (by decide) (rm_vp l Z a0 hw ev pc o fP V h11 (staKeep S_P KK) (V_pc.keep KK nin0) hfo hp hV0 hV16) rfl pd_11 rfl (hst := rfl) (W := 1) (Nat.le_of_eq rfl) (by decide) (by decide) (c2 := 4) (s2 := 22) rfl rfl (by decide) (by decide) rfl rfl (q := 154) rfl ?_
    intro v14 T14 O14 q14
    obtain rfl := q14
    show Go C _ _ _ _ (T14.setTop (mkF C.m 154 #[.val (.int p0), .val (.int p1), .val (.int p2), .val (.int p3), .val (.int p4), .val (.int wa), .val (.int wb), .val (.int wc), .val (.int x1), .val (.int x2), .val (.int x3), .val (.long tt.toInt64), .second, .val (.ref nb6), .val (.ref rr), .val (.long ev), .second] [(.ref o), (.ref rr)]))
    refine Jvm.OwnW.callV0 O14 (y := (⟨"java/math/BigInteger", "equals", "(Ljava/lang/Object;)Z"⟩ : MethodName)) (z := (⟨"java/math/BigInteger", "equals", "(Ljava/lang/Object;)Z"⟩ : MethodName)) (a := rr) (argsL := [(.ref o)]) (rest := []) at_154 (hw _ (List.mem_of_getElem? (i := 82) rfl)) (hw _ (List.mem_of_getElem? (i := 83) rfl)) (hw _ (List.mem_of_getElem? (i := 85) rfl)) rfl (hw _ (List.mem_of_getElem? (i := 84) rfl)) (hw _ (List.mem_of_getElem? (i := 43) rfl)) (hw _ (List.mem_of_getElem? (i := 86) rfl)) (by decide) (rm_e l Z a0 hw rr o V h11 B_rr (B_o.keep KK)) E_rr rfl pd_12 rfl (hst := rfl) (W := 0) (Nat.le_of_eq rfl) (by decide) (by decide) (c2 := 4) (s2 := 22) rfl rfl (by decide) (by decide) rfl rfl (q := 157) rfl ?_
    intro v15 T15 O15 q15
    obtain rfl := q15
    show Go C _ _ _ _ (T15.setTop (mkF C.m 157 #[.val (.int p0), .val (.int p1), .val (.int p2), .val (.int p3), .val (.int p4), .val (.int wa), .val (.int wb), .val (.int wc), .val (.int x1), .val (.int x2), .val (.int x3), .val (.long tt.toInt64), .second, .val (.ref nb6), .val (.ref rr), .val (.long ev), .second] [(.int (1 : Int32))]))
    exact Jvm.OwnW.retB O15 at_157 rfl (Or.inr rfl) (by decide) (by decide) rfl
  · skip
    refine Jvm.OwnW.callS O11 (y := (⟨"java/math/BigInteger", "valueOf", "(J)Ljava/math/BigInteger;"⟩ : MethodName)) (argsL := [(.long ev)]) (rest := [(.ref rr)]) at_151 (hw _ (List.mem_of_getElem? (i := 79) rfl)) (hw _ (List.mem_of_getElem? (i := 80) rfl)) (hw _ (List.mem_of_getElem? (i := 43) rfl)) (hw _ (List.mem_of_getElem? (i := 81) rfl)) (by decide) (rm_vn l Z a0 hw ev V h11 hp (by omega) hV16) rfl pd_11 rfl (hst := rfl) (W := 1) (Nat.le_of_eq rfl) (by decide) (by decide) (c2 := 6) (s2 := 30) rfl rfl (by decide) (by decide) all0 (q := 154) rfl ?_
    intro v16 T16 h16 O16 K16 q16
    obtain ⟨r2, rfl, m_r2, B_r2⟩ := q16
    have E_nb6 := E_nb6.keep K16
    have F_bytes_nb6 := F_bytes_nb6.keep K16 nin0
    have F_index_nb6 := F_index_nb6.keep K16 nin0
    have F_pending_nb6 := F_pending_nb6.keep K16 nin0
    have F_pendingBits_nb6 := F_pendingBits_nb6.keep K16 nin0
    have E_rr := E_rr.keep K16
    have B_rr := B_rr.keep K16
    show Go C _ _ _ _ (T16.setTop (mkF C.m 154 #[.val (.int p0), .val (.int p1), .val (.int p2), .val (.int p3), .val (.int p4), .val (.int wa), .val (.int wb), .val (.int wc), .val (.int x1), .val (.int x2), .val (.int x3), .val (.long tt.toInt64), .second, .val (.ref nb6), .val (.ref rr), .val (.long ev), .second] [(.ref r2), (.ref rr)]))
    refine Jvm.OwnW.callV0 O16 (y := (⟨"java/math/BigInteger", "equals", "(Ljava/lang/Object;)Z"⟩ : MethodName)) (z := (⟨"java/math/BigInteger", "equals", "(Ljava/lang/Object;)Z"⟩ : MethodName)) (a := rr) (argsL := [(.ref r2)]) (rest := []) at_154 (hw _ (List.mem_of_getElem? (i := 82) rfl)) (hw _ (List.mem_of_getElem? (i := 83) rfl)) (hw _ (List.mem_of_getElem? (i := 85) rfl)) rfl (hw _ (List.mem_of_getElem? (i := 84) rfl)) (hw _ (List.mem_of_getElem? (i := 43) rfl)) (hw _ (List.mem_of_getElem? (i := 86) rfl)) (by decide) (rm_e l Z a0 hw rr r2 V h16 B_rr B_r2) E_rr rfl pd_12 rfl (hst := rfl) (W := 0) (Nat.le_of_eq rfl) (by decide) (by decide) (c2 := 6) (s2 := 30) rfl rfl (by decide) (by decide) rfl rfl (q := 157) rfl ?_
    intro v17 T17 O17 q17
    obtain rfl := q17
    show Go C _ _ _ _ (T17.setTop (mkF C.m 157 #[.val (.int p0), .val (.int p1), .val (.int p2), .val (.int p3), .val (.int p4), .val (.int wa), .val (.int wb), .val (.int wc), .val (.int x1), .val (.int x2), .val (.int x3), .val (.long tt.toInt64), .second, .val (.ref nb6), .val (.ref rr), .val (.long ev), .second] [(.int (1 : Int32))]))
    exact Jvm.OwnW.retB O17 at_157 rfl (Or.inr rfl) (by decide) (by decide) rfl
set_option maxRecDepth 65536 in
set_option maxHeartbeats 40000000 in
theorem comes_1 {Post : Tables → Env → Array Value → State → Outcome → State → Prop} (hpost : ∀ tb e args s v u, (limb_1_1.after args s (.returned v) u = true ∧ limb_1_2.after args s (.returned v) u = true ∧ True) → FrameEnd s (.returned v) u (Jvm.fieldLocs frame_1_writes args s ++ Jvm.arrayLocs frame_1_arrays args s ++ Jvm.staticLocs frame_1_statics s) 24 128 → Post tb e args s (.returned v) u) :
    ArmFor flags0 classFile x code maxLocals ret World_1 tables_1 room_1 Calls_1 rest_1 Pre_1 Post := by
  intro l hfl _ _ p e ha hc hk s m args below hf hA hF happ hP
  obtain ⟨hcalls, hrest, hpre⟩ := hP
  obtain ⟨-, -, -, hnamed, -, -, -, hat⟩ := (Spec.applies_iff hf).mp happ
  obtain ⟨hg, hn⟩ := and_e (Cond.before_iff.mp (show (Jvm.Cond.and given_1 narrow_1).before args s = true from hpre))
  obtain ⟨hn1, hg⟩ := and_e hg
  obtain ⟨w0, w1, w2, w3, w4, rfl⟩ : ∃ w0 w1 w2 w3 w4 : Value, args = #[w0, w1, w2, w3, w4] := by
    have hs : args.size = 5 := by simpa [Cond.value, given_1] using hn1
    obtain ⟨L⟩ := args
    match L, hs with
    | [w0, w1, w2, w3, w4], _ => exact ⟨w0, w1, w2, w3, w4, rfl⟩
  have hw := fun d (hd : d ∈ tables_1) => atoms_spec (ws := Jvm.Cond.code x code maxLocals ret :: tables_1) hat d (List.mem_cons_of_mem _ hd)
  obtain ⟨hg0, hg⟩ := and_e hg
  obtain ⟨i0, e0⟩ := is_v hg0
  obtain rfl : w0 = (.int i0) := Option.some.inj e0
  obtain ⟨hg1, hg⟩ := and_e hg
  obtain ⟨i1, e1⟩ := is_v hg1
  obtain rfl : w1 = (.int i1) := Option.some.inj e1
  obtain ⟨hg2, hg⟩ := and_e hg
  obtain ⟨i2, e2⟩ := is_v hg2
  obtain rfl : w2 = (.int i2) := Option.some.inj e2
  obtain ⟨hg3, hg⟩ := and_e hg
  obtain ⟨i3, e3⟩ := is_v hg3
  obtain rfl : w3 = (.int i3) := Option.some.inj e3
  obtain ⟨i4, e4⟩ := is_v hg
  obtain rfl : w4 = (.int i4) := Option.some.inj e4
  obtain ⟨hsets, -⟩ := atoms_of _ (rest_1_c_eq ▸ (show rest_1_c.before _ s = true from hrest))
  obtain ⟨zo, zm, ezo, F_zo, V_zm, B_zo⟩ := own_bigZ (hsets _ (List.mem_of_getElem? (i := 2) rfl)) (hsets _ (List.mem_of_getElem? (i := 3) rfl)) (hsets _ (List.mem_of_getElem? (i := 4) rfl)) (hsets _ (List.mem_of_getElem? (i := 6) rfl))
  have S_Z := Sta.start ezo (Or.inl (hsets _ (List.mem_of_getElem? (i := 1) rfl)))
  obtain ⟨pc, epc⟩ := arr_v (Cond.before_iff.mp (hsets _ (List.mem_of_getElem? (i := 15) rfl)))
  have S_P := Sta.start epc (Or.inl (hsets _ (List.mem_of_getElem? (i := 8) rfl)))
  obtain ⟨cP, hatP, A_pc, hsP⟩ := own_arrN (N := 17) epc (hsets _ (List.mem_of_getElem? (i := 15) rfl)) (hsets _ (List.mem_of_getElem? (i := 17) rfl)) rfl
  have V_pc := Ar.of_arr' A_pc hsP (by decide)
  have hPC : ∀ k, 1 ≤ k → k ≤ 16 → ∃ o, (cP.slots[k]?).getD .null = .ref o ∧ own_big s s.heap o k := by
    intro k k1 k2
    obtain rfl | rfl | rfl | rfl | rfl | rfl | rfl | rfl | rfl | rfl | rfl | rfl | rfl | rfl | rfl | rfl : k = 1 ∨ k = 2 ∨ k = 3 ∨ k = 4 ∨ k = 5 ∨ k = 6 ∨ k = 7 ∨ k = 8 ∨ k = 9 ∨ k = 10 ∨ k = 11 ∨ k = 12 ∨ k = 13 ∨ k = 14 ∨ k = 15 ∨ k = 16 := by omega
    · exact own_pc epc hatP (z := 1) (by decide) (by decide) (own_bigA (z := 1) (by decide) (by decide) (by decide) (hsets _ (List.mem_of_getElem? (i := 19) rfl)) (hsets _ (List.mem_of_getElem? (i := 20) rfl)) (hsets _ (List.mem_of_getElem? (i := 21) rfl)) (hsets _ (List.mem_of_getElem? (i := 23) rfl)) (hsets _ (List.mem_of_getElem? (i := 24) rfl)))
    · exact own_pc epc hatP (z := 2) (by decide) (by decide) (own_bigA (z := 2) (by decide) (by decide) (by decide) (hsets _ (List.mem_of_getElem? (i := 26) rfl)) (hsets _ (List.mem_of_getElem? (i := 27) rfl)) (hsets _ (List.mem_of_getElem? (i := 28) rfl)) (hsets _ (List.mem_of_getElem? (i := 30) rfl)) (hsets _ (List.mem_of_getElem? (i := 31) rfl)))
    · exact own_pc epc hatP (z := 3) (by decide) (by decide) (own_bigA (z := 3) (by decide) (by decide) (by decide) (hsets _ (List.mem_of_getElem? (i := 32) rfl)) (hsets _ (List.mem_of_getElem? (i := 33) rfl)) (hsets _ (List.mem_of_getElem? (i := 34) rfl)) (hsets _ (List.mem_of_getElem? (i := 36) rfl)) (hsets _ (List.mem_of_getElem? (i := 37) rfl)))
    · exact own_pc epc hatP (z := 4) (by decide) (by decide) (own_bigA (z := 4) (by decide) (by decide) (by decide) (hsets _ (List.mem_of_getElem? (i := 38) rfl)) (hsets _ (List.mem_of_getElem? (i := 39) rfl)) (hsets _ (List.mem_of_getElem? (i := 40) rfl)) (hsets _ (List.mem_of_getElem? (i := 42) rfl)) (hsets _ (List.mem_of_getElem? (i := 43) rfl)))
    · exact own_pc epc hatP (z := 5) (by decide) (by decide) (own_bigA (z := 5) (by decide) (by decide) (by decide) (hsets _ (List.mem_of_getElem? (i := 44) rfl)) (hsets _ (List.mem_of_getElem? (i := 45) rfl)) (hsets _ (List.mem_of_getElem? (i := 46) rfl)) (hsets _ (List.mem_of_getElem? (i := 48) rfl)) (hsets _ (List.mem_of_getElem? (i := 49) rfl)))
    · exact own_pc epc hatP (z := 6) (by decide) (by decide) (own_bigA (z := 6) (by decide) (by decide) (by decide) (hsets _ (List.mem_of_getElem? (i := 50) rfl)) (hsets _ (List.mem_of_getElem? (i := 51) rfl)) (hsets _ (List.mem_of_getElem? (i := 52) rfl)) (hsets _ (List.mem_of_getElem? (i := 54) rfl)) (hsets _ (List.mem_of_getElem? (i := 55) rfl)))
    · exact own_pc epc hatP (z := 7) (by decide) (by decide) (own_bigA (z := 7) (by decide) (by decide) (by decide) (hsets _ (List.mem_of_getElem? (i := 56) rfl)) (hsets _ (List.mem_of_getElem? (i := 57) rfl)) (hsets _ (List.mem_of_getElem? (i := 58) rfl)) (hsets _ (List.mem_of_getElem? (i := 60) rfl)) (hsets _ (List.mem_of_getElem? (i := 61) rfl)))
    · exact own_pc epc hatP (z := 8) (by decide) (by decide) (own_bigA (z := 8) (by decide) (by decide) (by decide) (hsets _ (List.mem_of_getElem? (i := 62) rfl)) (hsets _ (List.mem_of_getElem? (i := 63) rfl)) (hsets _ (List.mem_of_getElem? (i := 64) rfl)) (hsets _ (List.mem_of_getElem? (i := 66) rfl)) (hsets _ (List.mem_of_getElem? (i := 67) rfl)))
    · exact own_pc epc hatP (z := 9) (by decide) (by decide) (own_bigA (z := 9) (by decide) (by decide) (by decide) (hsets _ (List.mem_of_getElem? (i := 68) rfl)) (hsets _ (List.mem_of_getElem? (i := 69) rfl)) (hsets _ (List.mem_of_getElem? (i := 70) rfl)) (hsets _ (List.mem_of_getElem? (i := 72) rfl)) (hsets _ (List.mem_of_getElem? (i := 73) rfl)))
    · exact own_pc epc hatP (z := 10) (by decide) (by decide) (own_bigA (z := 10) (by decide) (by decide) (by decide) (hsets _ (List.mem_of_getElem? (i := 75) rfl)) (hsets _ (List.mem_of_getElem? (i := 76) rfl)) (hsets _ (List.mem_of_getElem? (i := 77) rfl)) (hsets _ (List.mem_of_getElem? (i := 79) rfl)) (hsets _ (List.mem_of_getElem? (i := 80) rfl)))
    · exact own_pc epc hatP (z := 11) (by decide) (by decide) (own_bigA (z := 11) (by decide) (by decide) (by decide) (hsets _ (List.mem_of_getElem? (i := 81) rfl)) (hsets _ (List.mem_of_getElem? (i := 82) rfl)) (hsets _ (List.mem_of_getElem? (i := 83) rfl)) (hsets _ (List.mem_of_getElem? (i := 85) rfl)) (hsets _ (List.mem_of_getElem? (i := 86) rfl)))
    · exact own_pc epc hatP (z := 12) (by decide) (by decide) (own_bigA (z := 12) (by decide) (by decide) (by decide) (hsets _ (List.mem_of_getElem? (i := 87) rfl)) (hsets _ (List.mem_of_getElem? (i := 88) rfl)) (hsets _ (List.mem_of_getElem? (i := 89) rfl)) (hsets _ (List.mem_of_getElem? (i := 91) rfl)) (hsets _ (List.mem_of_getElem? (i := 92) rfl)))
    · exact own_pc epc hatP (z := 13) (by decide) (by decide) (own_bigA (z := 13) (by decide) (by decide) (by decide) (hsets _ (List.mem_of_getElem? (i := 93) rfl)) (hsets _ (List.mem_of_getElem? (i := 94) rfl)) (hsets _ (List.mem_of_getElem? (i := 95) rfl)) (hsets _ (List.mem_of_getElem? (i := 97) rfl)) (hsets _ (List.mem_of_getElem? (i := 98) rfl)))
    · exact own_pc epc hatP (z := 14) (by decide) (by decide) (own_bigA (z := 14) (by decide) (by decide) (by decide) (hsets _ (List.mem_of_getElem? (i := 99) rfl)) (hsets _ (List.mem_of_getElem? (i := 100) rfl)) (hsets _ (List.mem_of_getElem? (i := 101) rfl)) (hsets _ (List.mem_of_getElem? (i := 103) rfl)) (hsets _ (List.mem_of_getElem? (i := 104) rfl)))
    · exact own_pc epc hatP (z := 15) (by decide) (by decide) (own_bigA (z := 15) (by decide) (by decide) (by decide) (hsets _ (List.mem_of_getElem? (i := 105) rfl)) (hsets _ (List.mem_of_getElem? (i := 106) rfl)) (hsets _ (List.mem_of_getElem? (i := 107) rfl)) (hsets _ (List.mem_of_getElem? (i := 109) rfl)) (hsets _ (List.mem_of_getElem? (i := 110) rfl)))
    · exact own_pc epc hatP (z := 16) (by decide) (by decide) (own_bigA (z := 16) (by decide) (by decide) (by decide) (hsets _ (List.mem_of_getElem? (i := 111) rfl)) (hsets _ (List.mem_of_getElem? (i := 112) rfl)) (hsets _ (List.mem_of_getElem? (i := 113) rfl)) (hsets _ (List.mem_of_getElem? (i := 115) rfl)) (hsets _ (List.mem_of_getElem? (i := 116) rfl)))
  obtain ⟨n, o, h1, h2, h3, _, L, rfl, ⟨N, -, -, rfl⟩, hq⟩ := rm_0 l s _ hw tables_1 i0 i1 i2 i3 i4 zo zm pc _ s.heap S_Z F_zo V_zm B_zo S_P V_pc hPC p e ha hc hk s m _ below hf ((Spec.applies_iff_loose hf).mp happ).1 ⟨rfl, State.Warmed39.refl s, rfl⟩ trivial
  refine ⟨n, _, h1, h2, h3, hpost _ _ _ _ _ _ ⟨Cond.after_iff.mpr rfl, Cond.after_iff.mpr (eq_i res_at (Term.int_eval (1)) rfl), trivial⟩ ⟨hq.1, hq.2.1, (hq.2.2.sift fun y hy => Or.inr ((N y hy).elim (fun z => nomatch z) id)).mono (by decide) (by decide)⟩⟩
theorem main_1_1 : Claimed_1_1 := comes_1 fun _ _ _ _ _ _ h hF => ⟨h.1, hF⟩
theorem main_1_2 : Claimed_1_2 := comes_1 fun _ _ _ _ _ _ h hF => ⟨h.2.1, hF⟩
end Jvm.Pilot.@@N@@
namespace Jvm.Pilot.@@N@@
open Jvm Jvm.ClassFile Sem Op Lib Jvm.Free Jvm.Stand Jvm.Pilot.@@N@@.Jvm.D
/-! MADE BY PROGRAM (witnessworld.py) out of the Statement's table words and the real class files: 16 classes; the members and pool entries that the words name. The judged class is class 1, her method 2. -/
namespace start1
open Jvm.ClassFile
def u (s : String) : CpInfo := .utf8 (stringToUtf16 s)
/-- a pool by its gaps: so many unusable entries, then the entry; so many at the end -/
def gap : Nat → List CpInfo → List CpInfo
  | 0, r => r
  | n + 1, r => .unusable :: gap n r
def poolList (es : List (Nat × CpInfo)) (last : Nat) : List CpInfo := es.foldr (fun e r => gap e.1 (e.2 :: r)) (gap last [])
def pool (es : List (Nat × CpInfo)) (last : Nat) : Array CpInfo := ⟨poolList es last⟩
def fileOf (pool : Array CpInfo) (this : Nat) (attrs : Array Attribute := #[]) (ms : Array MethodInfo := #[]) (fl : Nat := 33) (sup : Nat := 0) (ifs : Array Nat := #[]) (fds : Array FieldInfo := #[]) : ClassFile where
  minorVersion := 0
  majorVersion := 65
  constantPool := pool
  accessFlags := fl
  thisClass := this
  superClass := sup
  interfaces := ifs
  fields := fds
  methods := ms
  attributes := attrs
def plain (name : String) (sup : Option ClassId) : Class where
  name := name
  kind := .ordinary
  loader := none
  accessFlags := 33
  super := sup
  interfaces := #[]
  cf := none
  fields := #[]
  methods := #[]
  instanceTypes := #[]
  staticTypes := #[]
  resolved := #[]
  callSites := []
  init := .initialized
  statics := none
  mirror := none

def pool0 : Array CpInfo := pool [(5, u "<init>"), (0, u "()V"), (1, .class_ 10), (1, u "java/lang/Object")] 113

def k0c0 : Code := { maxStack := 0, maxLocals := 1, code := object_method_1_code, exceptionTable := #[], attributes := #[] }
def k0m0 : Method := { name := "<init>", desc := "()V", sig := { parameters := [], returnType := none }, accessFlags := 1, code := some k0c0 }
/-- java/lang/Object -/
def k0 : Class := { plain "java/lang/Object" none with
  accessFlags := 33
  interfaces := #[]
  cf := some (fileOf pool0 8 #[] #[{ accessFlags := 1, nameIndex := 5, descriptorIndex := 6, attributes := #[] }] 33 0 #[] #[])
  fields := #[]
  methods := #[k0m0]
  instanceTypes := #[]
  staticTypes := #[]
  resolved := Array.replicate 124 none
  statics := none }

def pool1 : Array CpInfo := pool [(2, .class_ 4), (1, u "java/lang/Object"), (0, u "<init>"), (0, u "()V"), (0, .methodref 8 9), (0, .class_ 10), (0, .nameAndType 11 12), (0, u "java/lang/Math"), (0, u "min"), (0, u "(II)I"), (0, .methodref 8 14), (0, .nameAndType 15 12), (0, u "max"), (0, .methodref 17 18), (0, .class_ 19), (0, .nameAndType 20 12), (0, u "com/example/vary5/vary5/MagnitudeBytesAddPinLaw"), (0, u "low"), (0, .class_ 22), (0, u "com/example/vary5/vary5/MagnitudeBytes"), (0, .methodref 21 24), (0, .nameAndType 5 25), (0, u "(J)V"), (0, .methodref 21 27), (0, .nameAndType 28 29), (0, u "add"), (0, u "(II)V"), (0, .methodref 21 31), (0, .nameAndType 32 33), (0, u "toBigInteger"), (0, u "()Ljava/math/BigInteger;"), (0, .methodref 35 36), (0, .class_ 37), (0, .nameAndType 38 39), (0, u "java/math/BigInteger"), (0, u "valueOf"), (0, u "(J)Ljava/math/BigInteger;"), (0, .methodref 35 41), (0, .nameAndType 42 43), (0, u "equals"), (0, u "(Ljava/lang/Object;)Z"), (2, u "law"), (0, u "(IIIII)Z")] 2

def k1m0 : Method := { name := "<init>", desc := "()V", sig := { parameters := [], returnType := none }, accessFlags := 1, code := none }
def k1c1 : Code := { maxStack := 6, maxLocals := 2, code := method_2_code, exceptionTable := #[], attributes := #[] }
def k1m1 : Method := { name := "low", desc := "(II)I", sig := { parameters := [.int, .int], returnType := some .int }, accessFlags := 10, code := some k1c1 }
def k1c2 : Code := { maxStack := 6, maxLocals := 17, code := code, exceptionTable := #[], attributes := #[] }
def k1m2 : Method := { name := "law", desc := "(IIIII)Z", sig := { parameters := [.int, .int, .int, .int, .int], returnType := some .boolean }, accessFlags := 9, code := some k1c2 }
/-- com/example/vary5/vary5/MagnitudeBytesAddPinLaw -/
def k1 : Class := { plain "com/example/vary5/vary5/MagnitudeBytesAddPinLaw" (some 0) with
  accessFlags := 49
  interfaces := #[]
  cf := some (fileOf pool1 17 #[] #[{ accessFlags := 1, nameIndex := 5, descriptorIndex := 6, attributes := #[] }, { accessFlags := 10, nameIndex := 20, descriptorIndex := 12, attributes := #[] }, { accessFlags := 9, nameIndex := 46, descriptorIndex := 47, attributes := #[] }] 49 2 #[] #[])
  fields := #[]
  methods := #[k1m0, k1m1, k1m2]
  instanceTypes := #[]
  staticTypes := #[]
  resolved := Array.replicate 50 none
  statics := none }

def pool2 : Array CpInfo := pool [(1, .class_ 2), (0, u "java/lang/Math"), (1, .class_ 6), (1, u "java/lang/Object"), (0, u "<init>"), (0, u "()V"), (89, .class_ 100), (1, u "java/lang/Math$RandomNumberGeneratorHolder"), (71, u "negativeZeroFloatBits"), (0, u "J"), (2, u "negativeZeroDoubleBits"), (21, u "max"), (2, u "min"), (43, u "$assertionsDisabled"), (0, u "Z"), (88, u "(II)I"), (2, u "twoToTheDoubleScaleDown"), (0, u "D"), (4, u "twoToTheDoubleScaleUp"), (9, u "E"), (3, u "PI"), (2, u "TAU"), (2, u "DEGREES_TO_RADIANS"), (0, u "RADIANS_TO_DEGREES")] 94

def k2m0 : Method := { name := "<init>", desc := "()V", sig := { parameters := [], returnType := none }, accessFlags := 2, code := none }
def k2c1 : Code := { maxStack := 2, maxLocals := 2, code := jdk_29_method_65_code, exceptionTable := #[], attributes := #[] }
def k2m1 : Method := { name := "max", desc := "(II)I", sig := { parameters := [.int, .int], returnType := some .int }, accessFlags := 9, code := some k2c1 }
def k2c2 : Code := { maxStack := 2, maxLocals := 2, code := jdk_29_method_69_code, exceptionTable := #[], attributes := #[] }
def k2m2 : Method := { name := "min", desc := "(II)I", sig := { parameters := [.int, .int], returnType := some .int }, accessFlags := 9, code := some k2c2 }
/-- java/lang/Math -/
def k2 : Class := { plain "java/lang/Math" (some 0) with
  accessFlags := 49
  interfaces := #[]
  cf := some (fileOf pool2 1 #[.nestMembers #[98]] #[{ accessFlags := 2, nameIndex := 7, descriptorIndex := 8, attributes := #[] }, { accessFlags := 9, nameIndex := 198, descriptorIndex := 335, attributes := #[] }, { accessFlags := 9, nameIndex := 201, descriptorIndex := 335, attributes := #[] }] 49 4 #[] #[{ accessFlags := 25, nameIndex := 354, descriptorIndex := 339, attributes := #[] }, { accessFlags := 25, nameIndex := 358, descriptorIndex := 339, attributes := #[] }, { accessFlags := 25, nameIndex := 361, descriptorIndex := 339, attributes := #[] }, { accessFlags := 26, nameIndex := 364, descriptorIndex := 339, attributes := #[] }, { accessFlags := 26, nameIndex := 365, descriptorIndex := 339, attributes := #[] }, { accessFlags := 26, nameIndex := 172, descriptorIndex := 173, attributes := #[] }, { accessFlags := 26, nameIndex := 176, descriptorIndex := 173, attributes := #[] }, { accessFlags := 8, nameIndex := 344, descriptorIndex := 339, attributes := #[] }, { accessFlags := 8, nameIndex := 338, descriptorIndex := 339, attributes := #[] }, { accessFlags := 4120, nameIndex := 245, descriptorIndex := 246, attributes := #[] }])
  fields := #[{ name := "E", type := .double, accessFlags := 25, slot := 0, constantValue := 0 }, { name := "PI", type := .double, accessFlags := 25, slot := 1, constantValue := 0 }, { name := "TAU", type := .double, accessFlags := 25, slot := 2, constantValue := 0 }, { name := "DEGREES_TO_RADIANS", type := .double, accessFlags := 26, slot := 3, constantValue := 0 }, { name := "RADIANS_TO_DEGREES", type := .double, accessFlags := 26, slot := 4, constantValue := 0 }, { name := "negativeZeroFloatBits", type := .long, accessFlags := 26, slot := 5, constantValue := 0 }, { name := "negativeZeroDoubleBits", type := .long, accessFlags := 26, slot := 6, constantValue := 0 }, { name := "twoToTheDoubleScaleUp", type := .double, accessFlags := 8, slot := 7, constantValue := 0 }, { name := "twoToTheDoubleScaleDown", type := .double, accessFlags := 8, slot := 8, constantValue := 0 }, { name := "$assertionsDisabled", type := .boolean, accessFlags := 4120, slot := 9, constantValue := 0 }]
  methods := #[k2m0, k2m1, k2m2]
  instanceTypes := #[]
  staticTypes := #[.double, .double, .double, .double, .double, .long, .long, .double, .double, .boolean]
  resolved := Array.replicate 460 none
  statics := none }

def pool3 : Array CpInfo := pool [(1, .methodref 2 3), (0, .class_ 4), (0, .nameAndType 5 6), (0, u "java/lang/Object"), (0, u "<init>"), (0, u "()V"), (0, .long 7), (1, .long 8), (1, .fieldref 12 13), (0, .class_ 14), (0, .nameAndType 15 16), (0, u "com/example/vary5/vary5/MagnitudeBytes"), (0, u "bytes"), (0, u "[B"), (0, .fieldref 12 18), (0, .nameAndType 19 20), (0, u "index"), (0, u "I"), (0, .fieldref 12 22), (0, .nameAndType 23 24), (0, u "pending"), (0, u "J"), (0, .fieldref 12 26), (0, .nameAndType 27 20), (0, u "pendingBits"), (0, .class_ 29), (0, u "java/math/BigInteger"), (0, .methodref 28 31), (0, .nameAndType 5 32), (0, u "(I[B)V"), (0, u "(J)V"), (2, u "add"), (0, u "(II)V"), (1, u "toBigInteger"), (0, u "()Ljava/math/BigInteger;")] 2

def k3c0 : Code := { maxStack := 5, maxLocals := 3, code := prog_8_method_1_code, exceptionTable := #[], attributes := #[] }
def k3m0 : Method := { name := "<init>", desc := "(J)V", sig := { parameters := [.long], returnType := none }, accessFlags := 0, code := some k3c0 }
def k3c1 : Code := { maxStack := 6, maxLocals := 3, code := prog_8_method_2_code, exceptionTable := #[], attributes := #[] }
def k3m1 : Method := { name := "add", desc := "(II)V", sig := { parameters := [.int, .int], returnType := none }, accessFlags := 0, code := some k3c1 }
def k3c2 : Code := { maxStack := 4, maxLocals := 1, code := prog_8_method_3_code, exceptionTable := #[], attributes := #[] }
def k3m2 : Method := { name := "toBigInteger", desc := "()Ljava/math/BigInteger;", sig := { parameters := [], returnType := some (.object "java/math/BigInteger") }, accessFlags := 0, code := some k3c2 }
/-- com/example/vary5/vary5/MagnitudeBytes -/
def k3 : Class := { plain "com/example/vary5/vary5/MagnitudeBytes" (some 0) with
  accessFlags := 48
  interfaces := #[]
  cf := some (fileOf pool3 12 #[] #[{ accessFlags := 0, nameIndex := 5, descriptorIndex := 33, attributes := #[] }, { accessFlags := 0, nameIndex := 36, descriptorIndex := 37, attributes := #[] }, { accessFlags := 0, nameIndex := 39, descriptorIndex := 40, attributes := #[] }] 48 2 #[] #[{ accessFlags := 18, nameIndex := 15, descriptorIndex := 16, attributes := #[] }, { accessFlags := 2, nameIndex := 19, descriptorIndex := 20, attributes := #[] }, { accessFlags := 2, nameIndex := 23, descriptorIndex := 24, attributes := #[] }, { accessFlags := 2, nameIndex := 27, descriptorIndex := 20, attributes := #[] }])
  fields := #[{ name := "bytes", type := (.array .byte), accessFlags := 18, slot := 0, constantValue := 0 }, { name := "index", type := .int, accessFlags := 2, slot := 1, constantValue := 0 }, { name := "pending", type := .long, accessFlags := 2, slot := 2, constantValue := 0 }, { name := "pendingBits", type := .int, accessFlags := 2, slot := 3, constantValue := 0 }]
  methods := #[k3m0, k3m1, k3m2]
  instanceTypes := #[(.array .byte), .int, .long, .int]
  staticTypes := #[]
  resolved := Array.replicate 43 none
  statics := none }

def pool4 : Array CpInfo := pool [(1, .class_ 2), (0, u "java/io/Serializable"), (0, .class_ 4), (0, u "java/lang/Object")] 2

/-- java/io/Serializable -/
def k4 : Class := { plain "java/io/Serializable" (some 0) with
  accessFlags := 1537
  interfaces := #[]
  cf := some (fileOf pool4 1 #[] #[] 1537 3 #[] #[])
  fields := #[]
  methods := #[]
  instanceTypes := #[]
  staticTypes := #[]
  resolved := Array.replicate 7 none
  statics := none }

def pool5 : Array CpInfo := pool [(1, .methodref 2 3), (0, .class_ 4), (0, .nameAndType 5 6), (0, u "java/lang/Object"), (0, u "<init>"), (0, u "()V"), (1, .class_ 10), (1, u "java/lang/Number"), (2, .class_ 14), (0, u "java/io/Serializable"), (0, u "serialVersionUID"), (0, u "J")] 20

def k5c0 : Code := { maxStack := 1, maxLocals := 1, code := jdk_18_method_1_code, exceptionTable := #[], attributes := #[] }
def k5m0 : Method := { name := "<init>", desc := "()V", sig := { parameters := [], returnType := none }, accessFlags := 1, code := some k5c0 }
/-- java/lang/Number -/
def k5 : Class := { plain "java/lang/Number" (some 0) with
  accessFlags := 1057
  interfaces := #[4]
  cf := some (fileOf pool5 8 #[] #[{ accessFlags := 1, nameIndex := 5, descriptorIndex := 6, attributes := #[] }] 1057 2 #[13] #[{ accessFlags := 26, nameIndex := 15, descriptorIndex := 16, attributes := #[] }])
  fields := #[{ name := "serialVersionUID", type := .long, accessFlags := 26, slot := 0, constantValue := 0 }]
  methods := #[k5m0]
  instanceTypes := #[]
  staticTypes := #[.long]
  resolved := Array.replicate 37 none
  statics := none }

def pool6 : Array CpInfo := pool [(1, .class_ 2), (0, u "java/lang/Comparable"), (0, .class_ 4), (0, u "java/lang/Object")] 7

/-- java/lang/Comparable -/
def k6 : Class := { plain "java/lang/Comparable" (some 0) with
  accessFlags := 1537
  interfaces := #[]
  cf := some (fileOf pool6 1 #[] #[] 1537 3 #[] #[])
  fields := #[]
  methods := #[]
  instanceTypes := #[]
  staticTypes := #[]
  resolved := Array.replicate 12 none
  statics := none }

def pool7 : Array CpInfo := pool [(3, .methodref 4 5), (0, .class_ 6), (0, .nameAndType 7 8), (0, u "java/lang/Number"), (0, u "<init>"), (0, u "()V"), (7, .methodref 17 18), (0, .class_ 19), (0, .nameAndType 20 21), (0, u "java/util/Objects"), (0, u "checkFromIndexSize"), (0, u "(III)I"), (0, .fieldref 23 24), (0, .class_ 25), (0, .nameAndType 26 27), (0, u "java/math/BigInteger"), (0, u "ZERO"), (0, u "Ljava/math/BigInteger;"), (0, .fieldref 23 29), (0, .nameAndType 30 31), (0, u "mag"), (0, u "[I"), (0, .fieldref 23 33), (0, .nameAndType 34 35), (0, u "signum"), (0, u "I"), (3, u "(I[BII)[I"), (0, .methodref 23 41), (0, .nameAndType 42 39), (0, u "stripLeadingZeroBytes"), (0, .integer 67108864), (14, .methodref 23 59), (0, .nameAndType 42 60), (0, u "([BII)[I"), (2, .methodref 23 64), (0, .nameAndType 7 65), (0, u "(I[BII)V"), (29, u "bitsPerDigit"), (0, u "[J"), (9, u "digitsPerInt"), (12, u "intRadix"), (60, u "SMALL_PRIME_PRODUCT"), (56, u "valueOf"), (0, u "(J)Ljava/math/BigInteger;"), (21, u "ONE"), (2, u "equals"), (0, u "(Ljava/lang/Object;)Z"), (2, u "TWO"), (43, u "$assertionsDisabled"), (0, u "Z"), (32, .long 16), (1, .fieldref 23 348), (0, .nameAndType 349 350), (0, u "posConst"), (0, u "[Ljava/math/BigInteger;"), (4, u "negConst"), (0, .methodref 23 357), (0, .nameAndType 7 358), (0, u "(J)V"), (113, .class_ 474), (1, u "java/math/BigInteger$RecursiveOp"), (106, u "NEGATIVE_ONE"), (91, u "bnExpModThreshTable"), (22, .integer 2147483648), (49, u "lowestSetBitPlusTwo"), (2, u "bitLengthPlusOne"), (2, u "bitCountPlusOne"), (6, u "LOG_TWO"), (0, u "D"), (2, u "logCache"), (0, u "[D"), (13, u "NUM_ZEROS"), (2, u "ZEROS"), (0, u "Ljava/lang/String;"), (9, u "longRadix"), (5, u "digitsPerLong"), (22, u "powerCache"), (0, u "[[Ljava/math/BigInteger;"), (45, u "firstNonzeroIntNumPlusTwo"), (38, .class_ 909), (1, u "java/math/BigInteger$UnsafeHolder"), (141, u "TEN"), (106, u "serialPersistentFields"), (0, u "[Ljava/io/ObjectStreamField;"), (0, .class_ 1161), (0, u "java/lang/Comparable"), (0, u "LONG_MASK"), (0, u "J"), (1, u "MAX_MAG_LENGTH"), (0, u "PRIME_SEARCH_BIT_LENGTH_LIMIT"), (1, u "KARATSUBA_THRESHOLD"), (1, u "TOOM_COOK_THRESHOLD"), (1, u "KARATSUBA_SQUARE_THRESHOLD"), (1, u "TOOM_COOK_SQUARE_THRESHOLD"), (1, u "BURNIKEL_ZIEGLER_THRESHOLD"), (0, u "BURNIKEL_ZIEGLER_OFFSET"), (1, u "SCHOENHAGE_BASE_CONVERSION_THRESHOLD"), (1, u "MULTIPLY_SQUARE_THRESHOLD"), (0, u "MONTGOMERY_INTRINSIC_THRESHOLD"), (1, u "SMALL_PRIME_THRESHOLD"), (1, u "DEFAULT_PRIME_CERTAINTY"), (1, u "MAX_CONSTANT"), (3, u "serialVersionUID"), (11, u "(I[B)V"), (326, .class_ 1532), (0, u "java/math/BigInteger$RecursiveOp$RecursiveSquare"), (0, .class_ 1534), (0, u "java/math/BigInteger$RecursiveOp$RecursiveMultiply")] 7

def k7c0 : Code := { maxStack := 4, maxLocals := 5, code := jdk_2097_method_4_code, exceptionTable := #[], attributes := #[] }
def k7m0 : Method := { name := "<init>", desc := "(I[BII)V", sig := { parameters := [.int, (.array .byte), .int, .int], returnType := none }, accessFlags := 1, code := some k7c0 }
def k7c1 : Code := { maxStack := 5, maxLocals := 3, code := jdk_2097_method_5_code, exceptionTable := #[], attributes := #[] }
def k7m1 : Method := { name := "<init>", desc := "(I[B)V", sig := { parameters := [.int, (.array .byte)], returnType := none }, accessFlags := 1, code := some k7c1 }
def k7c2 : Code := { maxStack := 4, maxLocals := 2, code := jdk_2097_method_29_code, exceptionTable := #[], attributes := #[] }
def k7m2 : Method := { name := "valueOf", desc := "(J)Ljava/math/BigInteger;", sig := { parameters := [.long], returnType := some (.object "java/math/BigInteger") }, accessFlags := 9, code := some k7c2 }
def k7c3 : Code := { maxStack := 4, maxLocals := 4, code := jdk_2097_method_30_code, exceptionTable := #[], attributes := #[] }
def k7m3 : Method := { name := "<init>", desc := "(J)V", sig := { parameters := [.long], returnType := none }, accessFlags := 2, code := some k7c3 }
def k7c4 : Code := { maxStack := 3, maxLocals := 7, code := jdk_2097_method_124_code, exceptionTable := #[], attributes := #[] }
def k7m4 : Method := { name := "equals", desc := "(Ljava/lang/Object;)Z", sig := { parameters := [(.object "java/lang/Object")], returnType := some .boolean }, accessFlags := 1, code := some k7c4 }
def k7c5 : Code := { maxStack := 4, maxLocals := 3, code := jdk_2097_method_141_code, exceptionTable := #[], attributes := #[] }
def k7m5 : Method := { name := "stripLeadingZeroBytes", desc := "([BII)[I", sig := { parameters := [(.array .byte), .int, .int], returnType := some (.array .int) }, accessFlags := 10, code := some k7c5 }
def k7c6 : Code := { maxStack := 5, maxLocals := 8, code := jdk_2097_method_142_code, exceptionTable := #[], attributes := #[] }
def k7m6 : Method := { name := "stripLeadingZeroBytes", desc := "(I[BII)[I", sig := { parameters := [.int, (.array .byte), .int, .int], returnType := some (.array .int) }, accessFlags := 10, code := some k7c6 }
/-- java/math/BigInteger -/
def k7 : Class := { plain "java/math/BigInteger" (some 5) with
  accessFlags := 33
  interfaces := #[6]
  cf := some (fileOf pool7 23 #[.nestMembers #[907, 472, 1531, 1533]] #[{ accessFlags := 1, nameIndex := 7, descriptorIndex := 65, attributes := #[] }, { accessFlags := 1, nameIndex := 7, descriptorIndex := 1204, attributes := #[] }, { accessFlags := 9, nameIndex := 237, descriptorIndex := 238, attributes := #[] }, { accessFlags := 2, nameIndex := 7, descriptorIndex := 358, attributes := #[] }, { accessFlags := 1, nameIndex := 263, descriptorIndex := 264, attributes := #[] }, { accessFlags := 10, nameIndex := 42, descriptorIndex := 60, attributes := #[] }, { accessFlags := 10, nameIndex := 42, descriptorIndex := 39, attributes := #[] }] 33 4 #[1160] #[{ accessFlags := 16, nameIndex := 34, descriptorIndex := 35, attributes := #[] }, { accessFlags := 16, nameIndex := 30, descriptorIndex := 31, attributes := #[] }, { accessFlags := 2, nameIndex := 752, descriptorIndex := 35, attributes := #[] }, { accessFlags := 2, nameIndex := 749, descriptorIndex := 35, attributes := #[] }, { accessFlags := 2, nameIndex := 746, descriptorIndex := 35, attributes := #[] }, { accessFlags := 2, nameIndex := 868, descriptorIndex := 35, attributes := #[] }, { accessFlags := 24, nameIndex := 1162, descriptorIndex := 1163, attributes := #[] }, { accessFlags := 26, nameIndex := 1165, descriptorIndex := 35, attributes := #[] }, { accessFlags := 26, nameIndex := 1166, descriptorIndex := 35, attributes := #[] }, { accessFlags := 26, nameIndex := 1168, descriptorIndex := 35, attributes := #[] }, { accessFlags := 26, nameIndex := 1170, descriptorIndex := 35, attributes := #[] }, { accessFlags := 26, nameIndex := 1172, descriptorIndex := 35, attributes := #[] }, { accessFlags := 26, nameIndex := 1174, descriptorIndex := 35, attributes := #[] }, { accessFlags := 24, nameIndex := 1176, descriptorIndex := 35, attributes := #[] }, { accessFlags := 24, nameIndex := 1177, descriptorIndex := 35, attributes := #[] }, { accessFlags := 26, nameIndex := 1179, descriptorIndex := 35, attributes := #[] }, { accessFlags := 26, nameIndex := 1181, descriptorIndex := 35, attributes := #[] }, { accessFlags := 26, nameIndex := 1182, descriptorIndex := 35, attributes := #[] }, { accessFlags := 10, nameIndex := 95, descriptorIndex := 96, attributes := #[] }, { accessFlags := 26, nameIndex := 1184, descriptorIndex := 35, attributes := #[] }, { accessFlags := 26, nameIndex := 1186, descriptorIndex := 35, attributes := #[] }, { accessFlags := 26, nameIndex := 180, descriptorIndex := 27, attributes := #[] }, { accessFlags := 26, nameIndex := 1188, descriptorIndex := 35, attributes := #[] }, { accessFlags := 26, nameIndex := 349, descriptorIndex := 350, attributes := #[] }, { accessFlags := 26, nameIndex := 355, descriptorIndex := 350, attributes := #[] }, { accessFlags := 74, nameIndex := 821, descriptorIndex := 822, attributes := #[] }, { accessFlags := 26, nameIndex := 763, descriptorIndex := 764, attributes := #[] }, { accessFlags := 26, nameIndex := 759, descriptorIndex := 760, attributes := #[] }, { accessFlags := 25, nameIndex := 26, descriptorIndex := 27, attributes := #[] }, { accessFlags := 25, nameIndex := 260, descriptorIndex := 27, attributes := #[] }, { accessFlags := 25, nameIndex := 267, descriptorIndex := 27, attributes := #[] }, { accessFlags := 26, nameIndex := 581, descriptorIndex := 27, attributes := #[] }, { accessFlags := 25, nameIndex := 1051, descriptorIndex := 27, attributes := #[] }, { accessFlags := 8, nameIndex := 673, descriptorIndex := 31, attributes := #[] }, { accessFlags := 10, nameIndex := 778, descriptorIndex := 35, attributes := #[] }, { accessFlags := 26, nameIndex := 781, descriptorIndex := 782, attributes := #[] }, { accessFlags := 10, nameIndex := 798, descriptorIndex := 31, attributes := #[] }, { accessFlags := 10, nameIndex := 792, descriptorIndex := 350, attributes := #[] }, { accessFlags := 10, nameIndex := 106, descriptorIndex := 31, attributes := #[] }, { accessFlags := 10, nameIndex := 119, descriptorIndex := 31, attributes := #[] }, { accessFlags := 26, nameIndex := 1192, descriptorIndex := 1163, attributes := #[] }, { accessFlags := 26, nameIndex := 1158, descriptorIndex := 1159, attributes := #[] }, { accessFlags := 4120, nameIndex := 311, descriptorIndex := 312, attributes := #[] }])
  fields := #[{ name := "signum", type := .int, accessFlags := 16, slot := 0, constantValue := 0 }, { name := "mag", type := (.array .int), accessFlags := 16, slot := 1, constantValue := 0 }, { name := "bitCountPlusOne", type := .int, accessFlags := 2, slot := 2, constantValue := 0 }, { name := "bitLengthPlusOne", type := .int, accessFlags := 2, slot := 3, constantValue := 0 }, { name := "lowestSetBitPlusTwo", type := .int, accessFlags := 2, slot := 4, constantValue := 0 }, { name := "firstNonzeroIntNumPlusTwo", type := .int, accessFlags := 2, slot := 5, constantValue := 0 }, { name := "LONG_MASK", type := .long, accessFlags := 24, slot := 0, constantValue := 0 }, { name := "MAX_MAG_LENGTH", type := .int, accessFlags := 26, slot := 1, constantValue := 0 }, { name := "PRIME_SEARCH_BIT_LENGTH_LIMIT", type := .int, accessFlags := 26, slot := 2, constantValue := 0 }, { name := "KARATSUBA_THRESHOLD", type := .int, accessFlags := 26, slot := 3, constantValue := 0 }, { name := "TOOM_COOK_THRESHOLD", type := .int, accessFlags := 26, slot := 4, constantValue := 0 }, { name := "KARATSUBA_SQUARE_THRESHOLD", type := .int, accessFlags := 26, slot := 5, constantValue := 0 }, { name := "TOOM_COOK_SQUARE_THRESHOLD", type := .int, accessFlags := 26, slot := 6, constantValue := 0 }, { name := "BURNIKEL_ZIEGLER_THRESHOLD", type := .int, accessFlags := 24, slot := 7, constantValue := 0 }, { name := "BURNIKEL_ZIEGLER_OFFSET", type := .int, accessFlags := 24, slot := 8, constantValue := 0 }, { name := "SCHOENHAGE_BASE_CONVERSION_THRESHOLD", type := .int, accessFlags := 26, slot := 9, constantValue := 0 }, { name := "MULTIPLY_SQUARE_THRESHOLD", type := .int, accessFlags := 26, slot := 10, constantValue := 0 }, { name := "MONTGOMERY_INTRINSIC_THRESHOLD", type := .int, accessFlags := 26, slot := 11, constantValue := 0 }, { name := "bitsPerDigit", type := (.array .long), accessFlags := 10, slot := 12, constantValue := 0 }, { name := "SMALL_PRIME_THRESHOLD", type := .int, accessFlags := 26, slot := 13, constantValue := 0 }, { name := "DEFAULT_PRIME_CERTAINTY", type := .int, accessFlags := 26, slot := 14, constantValue := 0 }, { name := "SMALL_PRIME_PRODUCT", type := (.object "java/math/BigInteger"), accessFlags := 26, slot := 15, constantValue := 0 }, { name := "MAX_CONSTANT", type := .int, accessFlags := 26, slot := 16, constantValue := 0 }, { name := "posConst", type := (.array (.object "java/math/BigInteger")), accessFlags := 26, slot := 17, constantValue := 0 }, { name := "negConst", type := (.array (.object "java/math/BigInteger")), accessFlags := 26, slot := 18, constantValue := 0 }, { name := "powerCache", type := (.array (.array (.object "java/math/BigInteger"))), accessFlags := 74, slot := 19, constantValue := 0 }, { name := "logCache", type := (.array .double), accessFlags := 26, slot := 20, constantValue := 0 }, { name := "LOG_TWO", type := .double, accessFlags := 26, slot := 21, constantValue := 0 }, { name := "ZERO", type := (.object "java/math/BigInteger"), accessFlags := 25, slot := 22, constantValue := 0 }, { name := "ONE", type := (.object "java/math/BigInteger"), accessFlags := 25, slot := 23, constantValue := 0 }, { name := "TWO", type := (.object "java/math/BigInteger"), accessFlags := 25, slot := 24, constantValue := 0 }, { name := "NEGATIVE_ONE", type := (.object "java/math/BigInteger"), accessFlags := 26, slot := 25, constantValue := 0 }, { name := "TEN", type := (.object "java/math/BigInteger"), accessFlags := 25, slot := 26, constantValue := 0 }, { name := "bnExpModThreshTable", type := (.array .int), accessFlags := 8, slot := 27, constantValue := 0 }, { name := "NUM_ZEROS", type := .int, accessFlags := 10, slot := 28, constantValue := 0 }, { name := "ZEROS", type := (.object "java/lang/String"), accessFlags := 26, slot := 29, constantValue := 0 }, { name := "digitsPerLong", type := (.array .int), accessFlags := 10, slot := 30, constantValue := 0 }, { name := "longRadix", type := (.array (.object "java/math/BigInteger")), accessFlags := 10, slot := 31, constantValue := 0 }, { name := "digitsPerInt", type := (.array .int), accessFlags := 10, slot := 32, constantValue := 0 }, { name := "intRadix", type := (.array .int), accessFlags := 10, slot := 33, constantValue := 0 }, { name := "serialVersionUID", type := .long, accessFlags := 26, slot := 34, constantValue := 0 }, { name := "serialPersistentFields", type := (.array (.object "java/io/ObjectStreamField")), accessFlags := 26, slot := 35, constantValue := 0 }, { name := "$assertionsDisabled", type := .boolean, accessFlags := 4120, slot := 36, constantValue := 0 }]
  methods := #[k7m0, k7m1, k7m2, k7m3, k7m4, k7m5, k7m6]
  instanceTypes := #[.int, (.array .int), .int, .int, .int, .int]
  staticTypes := #[.long, .int, .int, .int, .int, .int, .int, .int, .int, .int, .int, .int, (.array .long), .int, .int, (.object "java/math/BigInteger"), .int, (.array (.object "java/math/BigInteger")), (.array (.object "java/math/BigInteger")), (.array (.array (.object "java/math/BigInteger"))), (.array .double), .double, (.object "java/math/BigInteger"), (.object "java/math/BigInteger"), (.object "java/math/BigInteger"), (.object "java/math/BigInteger"), (.object "java/math/BigInteger"), (.array .int), .int, (.object "java/lang/String"), (.array .int), (.array (.object "java/math/BigInteger")), (.array .int), (.array .int), .long, (.array (.object "java/io/ObjectStreamField")), .boolean]
  resolved := Array.replicate 1542 none
  statics := some 0 }

def pool8 : Array CpInfo := pool [(2, .class_ 4), (1, u "java/lang/Object"), (0, u "<init>"), (0, u "()V"), (35, .class_ 44), (1, u "java/util/Objects"), (61, .class_ 108), (1, u "jdk/internal/util/Preconditions"), (5, u "(IIILjava/util/function/BiFunction;)I"), (0, .methodref 106 116), (0, .nameAndType 117 114), (0, u "checkFromIndexSize"), (57, u "(III)I")] 8

def k8m0 : Method := { name := "<init>", desc := "()V", sig := { parameters := [], returnType := none }, accessFlags := 2, code := none }
def k8c1 : Code := { maxStack := 4, maxLocals := 3, code := jdk_31_method_19_code, exceptionTable := #[], attributes := #[] }
def k8m1 : Method := { name := "checkFromIndexSize", desc := "(III)I", sig := { parameters := [.int, .int, .int], returnType := some .int }, accessFlags := 9, code := some k8c1 }
/-- java/util/Objects -/
def k8 : Class := { plain "java/util/Objects" (some 0) with
  accessFlags := 49
  interfaces := #[]
  cf := some (fileOf pool8 42 #[] #[{ accessFlags := 2, nameIndex := 5, descriptorIndex := 6, attributes := #[] }, { accessFlags := 9, nameIndex := 117, descriptorIndex := 175, attributes := #[] }] 49 2 #[] #[])
  fields := #[]
  methods := #[k8m0, k8m1]
  instanceTypes := #[]
  staticTypes := #[]
  resolved := Array.replicate 184 none
  statics := none }

def pool9 : Array CpInfo := pool [(2, .class_ 4), (1, u "java/lang/Object"), (0, u "<init>"), (0, u "()V"), (17, .class_ 26), (1, u "jdk/internal/util/Preconditions"), (22, u "checkFromIndexSize"), (5, .class_ 56), (0, u "jdk/internal/util/Preconditions$4"), (57, .class_ 115), (0, u "jdk/internal/util/Preconditions$1"), (7, u "SIOOBE_FORMATTER"), (0, u "Ljava/util/function/BiFunction;"), (0, .class_ 126), (0, u "jdk/internal/util/Preconditions$2"), (3, u "AIOOBE_FORMATTER"), (0, .class_ 132), (0, u "jdk/internal/util/Preconditions$3"), (3, u "IOOBE_FORMATTER"), (46, u "(IIILjava/util/function/BiFunction;)I")] 10

def k9m0 : Method := { name := "<init>", desc := "()V", sig := { parameters := [], returnType := none }, accessFlags := 1, code := none }
def k9c1 : Code := { maxStack := 4, maxLocals := 4, code := jdk_41_method_13_code, exceptionTable := #[], attributes := #[] }
def k9m1 : Method := { name := "checkFromIndexSize", desc := "(IIILjava/util/function/BiFunction;)I", sig := { parameters := [.int, .int, .int, (.object "java/util/function/BiFunction")], returnType := some .int }, accessFlags := 9, code := some k9c1 }
/-- jdk/internal/util/Preconditions -/
def k9 : Class := { plain "jdk/internal/util/Preconditions" (some 0) with
  accessFlags := 33
  interfaces := #[]
  cf := some (fileOf pool9 24 #[.nestMembers #[55, 131, 125, 114]] #[{ accessFlags := 1, nameIndex := 5, descriptorIndex := 6, attributes := #[] }, { accessFlags := 9, nameIndex := 49, descriptorIndex := 183, attributes := #[] }] 33 2 #[] #[{ accessFlags := 25, nameIndex := 123, descriptorIndex := 124, attributes := #[] }, { accessFlags := 25, nameIndex := 130, descriptorIndex := 124, attributes := #[] }, { accessFlags := 25, nameIndex := 136, descriptorIndex := 124, attributes := #[] }])
  fields := #[{ name := "SIOOBE_FORMATTER", type := (.object "java/util/function/BiFunction"), accessFlags := 25, slot := 0, constantValue := 0 }, { name := "AIOOBE_FORMATTER", type := (.object "java/util/function/BiFunction"), accessFlags := 25, slot := 1, constantValue := 0 }, { name := "IOOBE_FORMATTER", type := (.object "java/util/function/BiFunction"), accessFlags := 25, slot := 2, constantValue := 0 }]
  methods := #[k9m0, k9m1]
  instanceTypes := #[]
  staticTypes := #[(.object "java/util/function/BiFunction"), (.object "java/util/function/BiFunction"), (.object "java/util/function/BiFunction")]
  resolved := Array.replicate 194 none
  statics := none }

def pool10 : Array CpInfo := pool [(1, u "java/lang/Cloneable"), (0, .class_ 1), (0, u "java/lang/Object"), (0, .class_ 3)] 3

/-- java/lang/Cloneable -/
def k10 : Class := { plain "java/lang/Cloneable" (some 0) with
  accessFlags := 1537
  interfaces := #[]
  cf := some (fileOf pool10 2 #[] #[] 1537 4 #[] #[])
  fields := #[]
  methods := #[]
  instanceTypes := #[]
  staticTypes := #[]
  resolved := Array.replicate 8 none
  statics := none }

/-- the primitive byte -/
def k11 : Class := { plain "byte" none with kind := .primitive 'B', accessFlags := 0x411 }
/-- [B -/
def k12 : Class := { plain "[B" (some 0) with kind := .array 11 .byte, interfaces := #[10, 4], accessFlags := 1041 }

/-- the primitive int -/
def k13 : Class := { plain "int" none with kind := .primitive 'I', accessFlags := 0x411 }
/-- [I -/
def k14 : Class := { plain "[I" (some 0) with kind := .array 13 .int, interfaces := #[10, 4], accessFlags := 1041 }

/-- [Ljava/math/BigInteger; -/
def k15 : Class := { plain "[Ljava/math/BigInteger;" (some 0) with kind := .array 7 (.object "java/math/BigInteger"), interfaces := #[10, 4], accessFlags := 1041 }

def heap : Heap := #[{ cls := 7, slots := #[.long 0, .int 0, .int 0, .int 0, .int 0, .int 0, .int 0, .int 0, .int 0, .int 0, .int 0, .int 0, .null, .int 0, .int 0, .null, .int 0, .ref 1, .null, .null, .null, .double 0, .ref 2, .ref 3, .ref 4, .null, .ref 12, .null, .int 0, .null, .null, .null, .null, .null, .long 0, .null, .int 0], vm := .statics 7 },
  { cls := 15, slots := #[.null, .ref 3, .ref 4, .ref 5, .ref 6, .ref 7, .ref 8, .ref 9, .ref 10, .ref 11, .ref 12, .ref 13, .ref 14, .ref 15, .ref 16, .ref 17, .ref 18], vm := .none },
  { cls := 7, slots := #[.int 0, .ref 19, .int 0, .int 0, .int 0, .int 0], vm := .none },
  { cls := 7, slots := #[.int 1, .ref 20, .int 0, .int 0, .int 0, .int 0], vm := .none },
  { cls := 7, slots := #[.int 1, .ref 21, .int 0, .int 0, .int 0, .int 0], vm := .none },
  { cls := 7, slots := #[.int 1, .ref 22, .int 0, .int 0, .int 0, .int 0], vm := .none },
  { cls := 7, slots := #[.int 1, .ref 23, .int 0, .int 0, .int 0, .int 0], vm := .none },
  { cls := 7, slots := #[.int 1, .ref 24, .int 0, .int 0, .int 0, .int 0], vm := .none },
  { cls := 7, slots := #[.int 1, .ref 25, .int 0, .int 0, .int 0, .int 0], vm := .none },
  { cls := 7, slots := #[.int 1, .ref 26, .int 0, .int 0, .int 0, .int 0], vm := .none },
  { cls := 7, slots := #[.int 1, .ref 27, .int 0, .int 0, .int 0, .int 0], vm := .none },
  { cls := 7, slots := #[.int 1, .ref 28, .int 0, .int 0, .int 0, .int 0], vm := .none },
  { cls := 7, slots := #[.int 1, .ref 29, .int 0, .int 0, .int 0, .int 0], vm := .none },
  { cls := 7, slots := #[.int 1, .ref 30, .int 0, .int 0, .int 0, .int 0], vm := .none },
  { cls := 7, slots := #[.int 1, .ref 31, .int 0, .int 0, .int 0, .int 0], vm := .none },
  { cls := 7, slots := #[.int 1, .ref 32, .int 0, .int 0, .int 0, .int 0], vm := .none },
  { cls := 7, slots := #[.int 1, .ref 33, .int 0, .int 0, .int 0, .int 0], vm := .none },
  { cls := 7, slots := #[.int 1, .ref 34, .int 0, .int 0, .int 0, .int 0], vm := .none },
  { cls := 7, slots := #[.int 1, .ref 35, .int 0, .int 0, .int 0, .int 0], vm := .none },
  { cls := 14, slots := #[], vm := .none },
  { cls := 14, slots := #[.int 1], vm := .none },
  { cls := 14, slots := #[.int 2], vm := .none },
  { cls := 14, slots := #[.int 3], vm := .none },
  { cls := 14, slots := #[.int 4], vm := .none },
  { cls := 14, slots := #[.int 5], vm := .none },
  { cls := 14, slots := #[.int 6], vm := .none },
  { cls := 14, slots := #[.int 7], vm := .none },
  { cls := 14, slots := #[.int 8], vm := .none },
  { cls := 14, slots := #[.int 9], vm := .none },
  { cls := 14, slots := #[.int 10], vm := .none },
  { cls := 14, slots := #[.int 11], vm := .none },
  { cls := 14, slots := #[.int 12], vm := .none },
  { cls := 14, slots := #[.int 13], vm := .none },
  { cls := 14, slots := #[.int 14], vm := .none },
  { cls := 14, slots := #[.int 15], vm := .none },
  { cls := 14, slots := #[.int 16], vm := .none }]
def classes : Array Class := #[k0, k1, k2, k3, k4, k5, k6, k7, k8, k9, k10, k11, k12, k13, k14, k15]
def interned : List (Array UInt16 × Addr) := []
def slotsUsed : Nat := 172
def theMethod : MethodId := ⟨1, 2⟩
def args0 : Array Value := #[.int 5, .int 6, .int 7, .int 3, .int 0]
def aboutOver (below : List Frame) : State where
  vm := { classes := classes, interned := interned.toArray }
  heap := heap
  slotsUsed := slotsUsed
  threads := #[{ frames := .invoking theMethod args0 :: below }]
def below0 : List Frame := [.native { method := ⟨0, 0⟩, args := #[] }]
def about1 : State := aboutOver below0
def p0 : Program := .bare "" "" ""
def e0 : Env := launch0.env 0 0 0
theorem w_frames : about1.frames = Frame.invoking theMethod args0 :: below0 := rfl
set_option maxRecDepth 65536 in
theorem w_args : argsFit about1.vm theMethod args0 = true := by decide +kernel
set_option maxRecDepth 65536 in
theorem w_heap : heapFits about1 = true := by decide +kernel
set_option maxRecDepth 65536 in
theorem w_runnable : about1.curStatus? = some .runnable := by decide +kernel
set_option maxRecDepth 65536 in
theorem w_alone : about1.alone = true := by decide +kernel
set_option maxRecDepth 65536 in
theorem w_named : about1.methodNamed? x = some theMethod := by decide +kernel
set_option maxRecDepth 65536 in
theorem w_hears : about1.hears theMethod below0 = true := by decide +kernel
set_option maxRecDepth 65536 in
theorem w_ripe : about1.ripe theMethod args0 below0 = true := by decide +kernel
theorem w_running : about1.status = .running := rfl
set_option maxRecDepth 65536 in
theorem w_room : about1.hasRoom e0.platform room_1 = true :=
  launch0.hasRoom_least _ room_1 (by decide +kernel) (by decide +kernel) (by decide +kernel) (by decide +kernel) (by decide +kernel) (by decide +kernel)
theorem allAtoms_all (ts : List Jvm.Cond) (a : Array Jvm.Value) (st : Jvm.State) : (allAtoms ts).before a st = ts.all (fun c => c.before a st) := by
  induction ts with
  | nil => rfl
  | cons c t ih =>
    show (Jvm.Cond.and c (allAtoms t)).before a st = _
    rw [Jvm.Cond.before_and, ih, List.all_cons]
def words1 : List Jvm.Cond := Jvm.Cond.code x code maxLocals ret :: tables_1
/-- a 'code' word, met by the world's own term for the bytes: nothing is compared byte by byte -/
theorem code_word {y : MethodName} {bytes : ByteArray} {mx : Nat} {rt : Option FieldType} {a : Array Value} {s : State} {m : MethodId} {meth : Method} {c : Code} (h1 : s.methodNamed? y = some m) (h2 : s.vm.method? m = some meth) (h3 : meth.code = some c) (h4 : c.code = bytes)
    (h5 : (c.maxLocals == mx && c.exceptionTable.isEmpty && decide (c.maxStack ≤ mostOperands) && decide (meth.sig.returnType = rt) && !meth.locks && decide (parseMethodDescriptor y.desc = some meth.sig)) = true) : (Jvm.Cond.code y bytes mx rt).before a s = true := by
  simp only [Bool.and_eq_true, beq_iff_eq, Bool.not_eq_true', decide_eq_true_eq] at h5
  obtain ⟨⟨⟨⟨⟨g1, g2⟩, g3⟩, g4⟩, g5⟩, g6⟩ := h5
  simp [Cond.before, Cond.holds, Cond.value, h1, h2, h3, h4, g1, g2, g3, g4, g5, g6]
def isCode : Jvm.Cond → Bool
  | .code _ _ _ _ => true
  | _ => false
theorem all_split {L : List Jvm.Cond} {P : Jvm.Cond → Bool} (h1 : L.all (fun c => isCode c || P c) = true) (h2 : ∀ c ∈ L.filter isCode, P c = true) : L.all P = true := by
  refine List.all_eq_true.mpr fun c hc => ?_
  have h := List.all_eq_true.mp h1 c hc
  rcases Bool.eq_false_or_eq_true (isCode c) with hi | hi
  · exact h2 c (List.mem_filter.mpr ⟨hc, hi⟩)
  · simpa [hi] using h
set_option maxRecDepth 65536 in
theorem w_c0 : (Jvm.Cond.code x code maxLocals ret).before args0 about1 = true := code_word (m := ⟨1, 2⟩) (meth := k1m2) (c := k1c2) (by decide +kernel) rfl rfl rfl (by decide +kernel)
set_option maxRecDepth 65536 in
theorem w_c1 : (Jvm.Cond.code ({ cls := "java/lang/Math", name := "min", desc := "(II)I" } : Jvm.MethodName) jdk_29_method_69_code (2 : Nat) (Option.some Jvm.ClassFile.FieldType.int)).before args0 about1 = true := code_word (m := ⟨2, 2⟩) (meth := k2m2) (c := k2c2) (by decide +kernel) rfl rfl rfl (by decide +kernel)
set_option maxRecDepth 65536 in
theorem w_c2 : (Jvm.Cond.code ({ cls := "java/lang/Math", name := "max", desc := "(II)I" } : Jvm.MethodName) jdk_29_method_65_code (2 : Nat) (Option.some Jvm.ClassFile.FieldType.int)).before args0 about1 = true := code_word (m := ⟨2, 1⟩) (meth := k2m1) (c := k2c1) (by decide +kernel) rfl rfl rfl (by decide +kernel)
set_option maxRecDepth 65536 in
theorem w_c3 : (Jvm.Cond.code ({ cls := "com/example/vary5/vary5/MagnitudeBytesAddPinLaw", name := "low", desc := "(II)I" } : Jvm.MethodName) method_2_code (2 : Nat) (Option.some Jvm.ClassFile.FieldType.int)).before args0 about1 = true := code_word (m := ⟨1, 1⟩) (meth := k1m1) (c := k1c1) (by decide +kernel) rfl rfl rfl (by decide +kernel)
set_option maxRecDepth 65536 in
theorem w_c4 : (Jvm.Cond.code ({ cls := "com/example/vary5/vary5/MagnitudeBytes", name := "<init>", desc := "(J)V" } : Jvm.MethodName) prog_8_method_1_code (3 : Nat) (Option.none : Option Jvm.ClassFile.FieldType)).before args0 about1 = true := code_word (m := ⟨3, 0⟩) (meth := k3m0) (c := k3c0) (by decide +kernel) rfl rfl rfl (by decide +kernel)
set_option maxRecDepth 65536 in
theorem w_c5 : (Jvm.Cond.code ({ cls := "java/lang/Object", name := "<init>", desc := "()V" } : Jvm.MethodName) object_method_1_code (1 : Nat) (Option.none : Option Jvm.ClassFile.FieldType)).before args0 about1 = true := code_word (m := ⟨0, 0⟩) (meth := k0m0) (c := k0c0) (by decide +kernel) rfl rfl rfl (by decide +kernel)
set_option maxRecDepth 65536 in
theorem w_c6 : (Jvm.Cond.code ({ cls := "com/example/vary5/vary5/MagnitudeBytes", name := "add", desc := "(II)V" } : Jvm.MethodName) prog_8_method_2_code (3 : Nat) (Option.none : Option Jvm.ClassFile.FieldType)).before args0 about1 = true := code_word (m := ⟨3, 1⟩) (meth := k3m1) (c := k3c1) (by decide +kernel) rfl rfl rfl (by decide +kernel)
set_option maxRecDepth 65536 in
theorem w_c7 : (Jvm.Cond.code ({ cls := "com/example/vary5/vary5/MagnitudeBytes", name := "toBigInteger", desc := "()Ljava/math/BigInteger;" } : Jvm.MethodName) prog_8_method_3_code (1 : Nat) (Option.some (Jvm.ClassFile.FieldType.object "java/math/BigInteger"))).before args0 about1 = true := code_word (m := ⟨3, 2⟩) (meth := k3m2) (c := k3c2) (by decide +kernel) rfl rfl rfl (by decide +kernel)
set_option maxRecDepth 65536 in
theorem w_c8 : (Jvm.Cond.code ({ cls := "java/math/BigInteger", name := "<init>", desc := "(I[B)V" } : Jvm.MethodName) jdk_2097_method_5_code (3 : Nat) (Option.none : Option Jvm.ClassFile.FieldType)).before args0 about1 = true := code_word (m := ⟨7, 1⟩) (meth := k7m1) (c := k7c1) (by decide +kernel) rfl rfl rfl (by decide +kernel)
set_option maxRecDepth 65536 in
theorem w_c9 : (Jvm.Cond.code ({ cls := "java/math/BigInteger", name := "<init>", desc := "(I[BII)V" } : Jvm.MethodName) jdk_2097_method_4_code (5 : Nat) (Option.none : Option Jvm.ClassFile.FieldType)).before args0 about1 = true := code_word (m := ⟨7, 0⟩) (meth := k7m0) (c := k7c0) (by decide +kernel) rfl rfl rfl (by decide +kernel)
set_option maxRecDepth 65536 in
theorem w_c10 : (Jvm.Cond.code ({ cls := "java/lang/Number", name := "<init>", desc := "()V" } : Jvm.MethodName) jdk_18_method_1_code (1 : Nat) (Option.none : Option Jvm.ClassFile.FieldType)).before args0 about1 = true := code_word (m := ⟨5, 0⟩) (meth := k5m0) (c := k5c0) (by decide +kernel) rfl rfl rfl (by decide +kernel)
set_option maxRecDepth 65536 in
theorem w_c11 : (Jvm.Cond.code ({ cls := "java/util/Objects", name := "checkFromIndexSize", desc := "(III)I" } : Jvm.MethodName) jdk_31_method_19_code (3 : Nat) (Option.some Jvm.ClassFile.FieldType.int)).before args0 about1 = true := code_word (m := ⟨8, 1⟩) (meth := k8m1) (c := k8c1) (by decide +kernel) rfl rfl rfl (by decide +kernel)
set_option maxRecDepth 65536 in
theorem w_c12 : (Jvm.Cond.code ({ cls := "jdk/internal/util/Preconditions", name := "checkFromIndexSize", desc := "(IIILjava/util/function/BiFunction;)I" } : Jvm.MethodName) jdk_41_method_13_code (4 : Nat) (Option.some Jvm.ClassFile.FieldType.int)).before args0 about1 = true := code_word (m := ⟨9, 1⟩) (meth := k9m1) (c := k9c1) (by decide +kernel) rfl rfl rfl (by decide +kernel)
set_option maxRecDepth 65536 in
theorem w_c13 : (Jvm.Cond.code ({ cls := "java/math/BigInteger", name := "stripLeadingZeroBytes", desc := "([BII)[I" } : Jvm.MethodName) jdk_2097_method_141_code (3 : Nat) (Option.some (Jvm.ClassFile.FieldType.array Jvm.ClassFile.FieldType.int))).before args0 about1 = true := code_word (m := ⟨7, 5⟩) (meth := k7m5) (c := k7c5) (by decide +kernel) rfl rfl rfl (by decide +kernel)
set_option maxRecDepth 65536 in
theorem w_c14 : (Jvm.Cond.code ({ cls := "java/math/BigInteger", name := "stripLeadingZeroBytes", desc := "(I[BII)[I" } : Jvm.MethodName) jdk_2097_method_142_code (8 : Nat) (Option.some (Jvm.ClassFile.FieldType.array Jvm.ClassFile.FieldType.int))).before args0 about1 = true := code_word (m := ⟨7, 6⟩) (meth := k7m6) (c := k7c6) (by decide +kernel) rfl rfl rfl (by decide +kernel)
set_option maxRecDepth 65536 in
theorem w_c15 : (Jvm.Cond.code ({ cls := "java/math/BigInteger", name := "valueOf", desc := "(J)Ljava/math/BigInteger;" } : Jvm.MethodName) jdk_2097_method_29_code (2 : Nat) (Option.some (Jvm.ClassFile.FieldType.object "java/math/BigInteger"))).before args0 about1 = true := code_word (m := ⟨7, 2⟩) (meth := k7m2) (c := k7c2) (by decide +kernel) rfl rfl rfl (by decide +kernel)
set_option maxRecDepth 65536 in
theorem w_c16 : (Jvm.Cond.code ({ cls := "java/math/BigInteger", name := "equals", desc := "(Ljava/lang/Object;)Z" } : Jvm.MethodName) jdk_2097_method_124_code (7 : Nat) (Option.some Jvm.ClassFile.FieldType.boolean)).before args0 about1 = true := code_word (m := ⟨7, 4⟩) (meth := k7m4) (c := k7c4) (by decide +kernel) rfl rfl rfl (by decide +kernel)
set_option maxRecDepth 65536 in
theorem w_c17 : (Jvm.Cond.code ({ cls := "java/math/BigInteger", name := "<init>", desc := "(J)V" } : Jvm.MethodName) jdk_2097_method_30_code (4 : Nat) (Option.none : Option Jvm.ClassFile.FieldType)).before args0 about1 = true := code_word (m := ⟨7, 3⟩) (meth := k7m3) (c := k7c3) (by decide +kernel) rfl rfl rfl (by decide +kernel)
def codes1 : List Jvm.Cond := [Jvm.Cond.code x code maxLocals ret, Jvm.Cond.code ({ cls := "java/lang/Math", name := "min", desc := "(II)I" } : Jvm.MethodName) jdk_29_method_69_code (2 : Nat) (Option.some Jvm.ClassFile.FieldType.int), Jvm.Cond.code ({ cls := "java/lang/Math", name := "max", desc := "(II)I" } : Jvm.MethodName) jdk_29_method_65_code (2 : Nat) (Option.some Jvm.ClassFile.FieldType.int), Jvm.Cond.code ({ cls := "com/example/vary5/vary5/MagnitudeBytesAddPinLaw", name := "low", desc := "(II)I" } : Jvm.MethodName) method_2_code (2 : Nat) (Option.some Jvm.ClassFile.FieldType.int), Jvm.Cond.code ({ cls := "com/example/vary5/vary5/MagnitudeBytes", name := "<init>", desc := "(J)V" } : Jvm.MethodName) prog_8_method_1_code (3 : Nat) (Option.none : Option Jvm.ClassFile.FieldType), Jvm.Cond.code ({ cls := "java/lang/Object", name := "<init>", desc := "()V" } : Jvm.MethodName) object_method_1_code (1 : Nat) (Option.none : Option Jvm.ClassFile.FieldType), Jvm.Cond.code ({ cls := "com/example/vary5/vary5/MagnitudeBytes", name := "add", desc := "(II)V" } : Jvm.MethodName) prog_8_method_2_code (3 : Nat) (Option.none : Option Jvm.ClassFile.FieldType), Jvm.Cond.code ({ cls := "com/example/vary5/vary5/MagnitudeBytes", name := "toBigInteger", desc := "()Ljava/math/BigInteger;" } : Jvm.MethodName) prog_8_method_3_code (1 : Nat) (Option.some (Jvm.ClassFile.FieldType.object "java/math/BigInteger")), Jvm.Cond.code ({ cls := "java/math/BigInteger", name := "<init>", desc := "(I[B)V" } : Jvm.MethodName) jdk_2097_method_5_code (3 : Nat) (Option.none : Option Jvm.ClassFile.FieldType), Jvm.Cond.code ({ cls := "java/math/BigInteger", name := "<init>", desc := "(I[BII)V" } : Jvm.MethodName) jdk_2097_method_4_code (5 : Nat) (Option.none : Option Jvm.ClassFile.FieldType), Jvm.Cond.code ({ cls := "java/lang/Number", name := "<init>", desc := "()V" } : Jvm.MethodName) jdk_18_method_1_code (1 : Nat) (Option.none : Option Jvm.ClassFile.FieldType), Jvm.Cond.code ({ cls := "java/util/Objects", name := "checkFromIndexSize", desc := "(III)I" } : Jvm.MethodName) jdk_31_method_19_code (3 : Nat) (Option.some Jvm.ClassFile.FieldType.int), Jvm.Cond.code ({ cls := "jdk/internal/util/Preconditions", name := "checkFromIndexSize", desc := "(IIILjava/util/function/BiFunction;)I" } : Jvm.MethodName) jdk_41_method_13_code (4 : Nat) (Option.some Jvm.ClassFile.FieldType.int), Jvm.Cond.code ({ cls := "java/math/BigInteger", name := "stripLeadingZeroBytes", desc := "([BII)[I" } : Jvm.MethodName) jdk_2097_method_141_code (3 : Nat) (Option.some (Jvm.ClassFile.FieldType.array Jvm.ClassFile.FieldType.int)), Jvm.Cond.code ({ cls := "java/math/BigInteger", name := "stripLeadingZeroBytes", desc := "(I[BII)[I" } : Jvm.MethodName) jdk_2097_method_142_code (8 : Nat) (Option.some (Jvm.ClassFile.FieldType.array Jvm.ClassFile.FieldType.int)), Jvm.Cond.code ({ cls := "java/math/BigInteger", name := "valueOf", desc := "(J)Ljava/math/BigInteger;" } : Jvm.MethodName) jdk_2097_method_29_code (2 : Nat) (Option.some (Jvm.ClassFile.FieldType.object "java/math/BigInteger")), Jvm.Cond.code ({ cls := "java/math/BigInteger", name := "equals", desc := "(Ljava/lang/Object;)Z" } : Jvm.MethodName) jdk_2097_method_124_code (7 : Nat) (Option.some Jvm.ClassFile.FieldType.boolean), Jvm.Cond.code ({ cls := "java/math/BigInteger", name := "<init>", desc := "(J)V" } : Jvm.MethodName) jdk_2097_method_30_code (4 : Nat) (Option.none : Option Jvm.ClassFile.FieldType)]
set_option maxRecDepth 65536 in
theorem codes_eq : words1.filter isCode = codes1 := rfl
theorem w_codes : ∀ c ∈ words1.filter isCode, c.before args0 about1 = true := by
  rw [codes_eq]
  intro c hc
  simp only [codes1, List.mem_cons, List.not_mem_nil, or_false] at hc
  rcases hc with rfl | rfl | rfl | rfl | rfl | rfl | rfl | rfl | rfl | rfl | rfl | rfl | rfl | rfl | rfl | rfl | rfl | rfl
  · exact w_c0
  · exact w_c1
  · exact w_c2
  · exact w_c3
  · exact w_c4
  · exact w_c5
  · exact w_c6
  · exact w_c7
  · exact w_c8
  · exact w_c9
  · exact w_c10
  · exact w_c11
  · exact w_c12
  · exact w_c13
  · exact w_c14
  · exact w_c15
  · exact w_c16
  · exact w_c17
set_option maxRecDepth 65536 in
theorem w_t1 : (words1.take 24).all (fun c => isCode c || c.before args0 about1) = true := by decide +kernel
set_option maxRecDepth 65536 in
theorem w_t2 : ((words1.drop 24).take 24).all (fun c => isCode c || c.before args0 about1) = true := by decide +kernel
set_option maxRecDepth 65536 in
theorem w_t3 : (((words1.drop 24).drop 24).take 24).all (fun c => isCode c || c.before args0 about1) = true := by decide +kernel
set_option maxRecDepth 65536 in
theorem w_t4 : (((words1.drop 24).drop 24).drop 24).all (fun c => isCode c || c.before args0 about1) = true := by decide +kernel
theorem w_tables : (allAtoms (Jvm.Cond.code x code maxLocals ret :: tables_1)).before args0 about1 = true := by
  rw [allAtoms_all]
  show words1.all (fun c => c.before args0 about1) = true
  refine all_split ?_ w_codes
  rw [← List.take_append_drop 24 words1, List.all_append, w_t1, ← List.take_append_drop 24 (words1.drop 24), List.all_append, w_t2, ← List.take_append_drop 24 ((words1.drop 24).drop 24), List.all_append, w_t3, w_t4]
  rfl
set_option maxRecDepth 65536 in
theorem w_rest : rest_1_c.before args0 about1 = true := by decide +kernel
set_option maxRecDepth 65536 in
theorem w_case : (Jvm.Cond.and given_1 narrow_1).before args0 about1 = true := by decide +kernel
theorem w_applies : (headSpec (Jvm.Cond.code x code maxLocals ret :: tables_1) room_1).applies x e0.platform about1 = true :=
  (Spec.applies_iff w_frames).mpr ⟨w_running, w_runnable, w_alone, w_named, w_hears, w_ripe, w_room, w_tables⟩
theorem atStart : AtStart classFile x code maxLocals ret World_1 tables_1 room_1 Calls_1 rest_1 Pre_1 launch0 p0 e0 about1 theMethod args0 below0 :=
  ⟨lists_1, trivial, launch0.admits_env _ _ _, launch0.least_env, fairChoices_fair.cas, fairChoices_fair.clock, w_frames, w_args, w_heap, w_applies, trivial, w_rest, w_case⟩
end start1
theorem witness_1 : WitnessClaimed_1 := ⟨start1.p0, start1.e0, start1.about1, start1.theMethod, start1.args0, start1.below0, start1.atStart⟩
end Jvm.Pilot.@@N@@
