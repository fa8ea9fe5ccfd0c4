import JvmDerived
import JvmDerived.Pilot.@@N@@Statement
import JvmDerived.Pilot.@@N@@Code
set_option linter.unusedVariables false
set_option linter.unusedSimpArgs false
namespace Jvm.OwnW
open Sem ClassFile Op Lib Jvm.Free Jvm.Stand Jvm.LawKit Jvm.RoadKit
/-- what stays the same all through one invocation -/
abbrev Ctx : Type := Program × Env × State × MethodId × Array Value × List Frame × Method × Code
abbrev Ctx.p (C : Ctx) : Program := C.1
abbrev Ctx.e (C : Ctx) : Env := C.2.1
abbrev Ctx.s (C : Ctx) : State := C.2.2.1
abbrev Ctx.m (C : Ctx) : MethodId := C.2.2.2.1
abbrev Ctx.args (C : Ctx) : Array Value := C.2.2.2.2.1
abbrev Ctx.below (C : Ctx) : List Frame := C.2.2.2.2.2.1
abbrev Ctx.meth (C : Ctx) : Method := C.2.2.2.2.2.2.1
abbrev Ctx.c (C : Ctx) : Code := C.2.2.2.2.2.2.2
/-- each place of the list lies in a cell of ws, or in one made since -/
def Wok (b : Nat) (ws : List Addr) (L : List Loc) : Prop := ∀ y ∈ L, y.base ∈ ws ∨ b ≤ y.base
theorem Wok.nil (b : Nat) (ws : List Addr) : Wok b ws [] := fun _ q => nomatch q
theorem Wok.app {b : Nat} {ws : List Addr} {L L' : List Loc} (N : Wok b ws L) (N' : Wok b ws L') : Wok b ws (L ++ L') := fun y q => (List.mem_append.mp q).elim (N y) (N' y)
theorem Wok.snoc {b : Nat} {ws : List Addr} {L : List Loc} {a : Addr} {sl : Nat} (N : Wok b ws L) (q : a ∈ ws ∨ b ≤ a) : Wok b ws (L ++ [⟨a, sl⟩]) := N.app fun y hy => by cases List.mem_singleton.mp hy; exact q
theorem keep_of_same {s t : State} {L : List Loc} {ws : List Addr} {k n : Nat} (h : s.sameButNew t L k n) (N : Wok s.heap.size ws L) : Keep s.heap t.heap ws := by
  obtain ⟨-, h2, -, -, -, h6⟩ := h
  refine ⟨h2, fun x c hx hn => ?_, fun x c hx => ?_⟩
  · obtain ⟨c', q1, q2, q3, q4⟩ := h6 x c hx
    have hlt := (Array.getElem?_eq_some_iff.mp hx).1
    have : c'.slots = c.slots := Array.ext_getElem? fun i => q4 i fun hm => (N _ hm).elim hn fun z => absurd hlt (Nat.not_lt.mpr z)
    rw [q1, q2, this]
  · obtain ⟨c', q1, q2, q3, q4⟩ := h6 x c hx
    exact ⟨c', q1, by rw [q2], by rw [q2], q3⟩
theorem eq_of_same {s t : State} {L : List Loc} {n : Nat} (h : s.sameButNew t L 0 n) (N : Wok s.heap.size [] L) : t.heap = s.heap := by
  have K := keep_of_same h N
  obtain ⟨-, h2, h3, -⟩ := h
  refine Array.ext_getElem? fun i => ?_
  cases hi : s.heap[i]? with
  | some c => exact K.2.1 i c hi (fun q => nomatch q)
  | none =>
    rw [Array.getElem?_eq_none_iff] at hi ⊢
    omega
/-- where the run stands: the invocation's state T with heap h; of what is older than the invocation only ws has been written -/
def On (l : Launch) (Z : State) (ws : List Addr) (R : Room) (own nm : String) (bytes : ByteArray) (maxL : Nat) (ret : Option FieldType) (C : Ctx) (T : State) (h : Heap) (cells slots : Nat) : Prop :=
  ∃ vm0 : Vm, (∃ k0, C.s.Since vm0 k0 ∧ k0 ≤ h.size) ∧
  (C.p.tables.exec = Jvm.exec ∧ Z.Warmed39 (C.s.setVm vm0).vm ∧ C.c.code = bytes ∧ C.c.maxLocals = maxL ∧ (C.s.setVm vm0).vm.findClass own = some C.m.cls ∧ C.meth.name = nm ∧ C.meth.sig.returnType = ret ∧ C.meth.locks = false) ∧
  (∃ locs, Stand C.p l C.e R (C.s.setVm vm0) C.m C.args C.below C.meth C.c T locs cells slots ∧ Wok C.s.heap.size ws locs) ∧ T.heap = h
theorem grow {s : State} {vm0 : Vm} {n n' : Nat} (SS : ∃ k0, s.Since vm0 k0 ∧ k0 ≤ n) (g : n ≤ n') : ∃ k0, s.Since vm0 k0 ∧ k0 ≤ n' := SS.imp fun _ q => ⟨q.1, Nat.le_trans q.2 g⟩
theorem wr_le {h h' : Heap} {a : Addr} {i : Nat} {v : Value} (W : Wr h h' a i v) : h.size ≤ h'.size := by obtain ⟨_, -, -, -, rfl⟩ := W; simp
def Post (ws : List Addr) (rc : Nat) (h0 : Heap) (Q : Option Value → Heap → Prop) (v : Option Value) (h : Heap) (L : List Loc) : Prop := Wok h0.size ws L ∧ Keep h0 h ws ∧ (rc = 0 → ws = [] → h = h0) ∧ Q v h
/-- from the state A the invocation comes to its end, with Q of what it returns and of the heap it leaves -/
def Go (C : Ctx) (ws : List Addr) (Q : Option Value → Heap → Prop) (k n : Nat) (A : State) : Prop :=
  ∃ U o, Steps C.p.tables C.e C.below A U ∧ U.status = .running ∧ Ended U C.below o ∧ ∃ v L, o = .returned v ∧ Post ws k C.s.heap Q v U.heap L ∧ ReturnedEndW C.s o U L k n
def Met (l : Launch) (Z : State) (y : MethodName) (bytes : ByteArray) (maxL : Nat) (ret : Option FieldType) (wds : List Cond) (rm : Room) (as' : Array Value) (ws : List Addr) (h0 : Heap) (Q : Option Value → Heap → Prop) : Prop :=
  MetFree l y (head1 (Cond.code y bytes maxL ret :: wds) rm) (fun a U => a = as' ∧ Z.Warmed39 U.vm ∧ U.heap = h0) (fun _ _ _ _ _ => True) (fun _ U o U' => ∃ v L, o = .returned v ∧ Post ws rm.cells h0 Q v U'.heap L ∧ ReturnedEndW U o U' L rm.cells rm.slots)
theorem Met.mk {l : Launch} {Z : State} {y : MethodName} {bytes : ByteArray} {maxL : Nat} {ret : Option FieldType} {wds : List Cond} {rm : Room} {as' : Array Value} {ws : List Addr} {h0 : Heap} {Q : Option Value → Heap → Prop} {Ls : Array Slot}
    (hp : plainFor y = true) (ef : ∀ m, entryFrame m as' maxL = mkF m 0 Ls [])
    (H : ∀ (C : Ctx) (T : State), C.s.heap = h0 → On l Z ws rm y.cls y.name bytes maxL ret C T h0 0 0 → Go C ws Q rm.cells rm.slots (T.setTop (mkF C.m 0 Ls []))) : Met l Z y bytes maxL ret wds rm as' ws h0 Q := by
  refine MetFree.of_bodySF hp hisR ?_
  intro p e s m args below meth c s₁ Bd hml0 hP hK
  obtain ⟨rfl, hZ, hh⟩ := hP
  have e0 : s₁.heap = h0 := by rw [← hh, Bd.state]; rfl
  have := H (p, e, s, m, args, below, meth, c) s₁ hh ⟨s.vm, ⟨h0.size, (State.WarmedH.refl s).since _, Nat.le_refl _⟩, ⟨Bd.exec, hZ, Bd.bytes, hml0, findClass_of_methodNamed Bd.named, (name_of_methodNamed Bd.named Bd.method).1, Bd.returns, Bd.notSynchronized⟩, ⟨[], Stand.of_body Bd, Wok.nil _ _⟩, e0⟩
  obtain ⟨U, o, h1, h2, h3, v, L, h4, h5, h6⟩ := this
  refine ⟨U, o, castTop (ef m) h1, h2, h3, v, L, h4, ?_, h6⟩
  rw [← hh]; exact h5
theorem Go.of {C : Ctx} {ws : List Addr} {Q : Option Value → Heap → Prop} {k n : Nat} {A B : State} (g : Go C ws Q k n B) (h : ∀ t, Steps C.p.tables C.e C.below B t → Steps C.p.tables C.e C.below A t) : Go C ws Q k n A := by
  obtain ⟨U, o, h1, r⟩ := g; exact ⟨U, o, h _ h1, r⟩
theorem Go.via {C : Ctx} {ws : List Addr} {Q : Option Value → Heap → Prop} {k n : Nat} {A B : State} (g : Go C ws Q k n B) (h : Steps C.p.tables C.e C.below A B) : Go C ws Q k n A := by
  obtain ⟨U, o, h1, r⟩ := g; exact ⟨U, o, h.trans h1, r⟩
section Steps
variable {l : Launch} {Z : State} {a0 : Array Value} {ws : List Addr} {R : Room} {own nm : String} {bytes : ByteArray} {maxL : Nat} {ret : Option FieldType} {C : Ctx} {T : State} {h : Heap} {cells slots k n : Nat} {Q : Option Value → Heap → Prop} {pc q : Nat} {Ls L' : Array Slot} {st : List Value}
theorem On.size (O : On l Z ws R own nm bytes maxL ret C T h cells slots) : C.s.heap.size ≤ h.size := by
  obtain ⟨vm0, -, -, ⟨_, X, -⟩, rfl⟩ := O; exact X.same.2.1
theorem On.kept (O : On l Z ws R own nm bytes maxL ret C T h cells slots) : Keep C.s.heap h ws := by
  obtain ⟨vm0, -, -, ⟨_, X, N⟩, rfl⟩ := O; exact keep_of_same (s := C.s.setVm vm0) (t := T.setVm vm0) X.same N
theorem fin (O : On l Z ws R own nm bytes maxL ret C T h cells slots) {v : Option Value} (hv : ret = none → v = none) (hk : cells ≤ k) (hn : slots ≤ n) (hQ : Q v h)
    (stp : ∀ X : State, ∀ fs, (∀ (f : JFrame) (acts : List Action), f.method = C.m → f.locked = none → f.entered = [] → (doReturn C.e (T.setTop f) acts v).1 = T.setFrames fs) → X = T.setFrames fs → Steps C.p.tables C.e C.below (T.setTop (mkF C.m pc Ls st)) X) : Go C ws Q k n (T.setTop (mkF C.m pc Ls st)) := by
  obtain ⟨vm0, SS, ⟨hx, hZ, -, -, -, -, hret, hlk⟩, ⟨L, X, N⟩, eT⟩ := O
  obtain ⟨fs, hr, hrun, hended, hW, hsame⟩ := X.leave (v := v) (fun q => hv (hret ▸ q)) hlk
  refine ⟨_, _, stp _ fs hr rfl, hrun, hended, v, L, rfl, ⟨N, ?_, ?_, ?_⟩, ⟨_, rfl⟩, ?_⟩
  · exact keep_of_same (s := C.s.setVm vm0) (t := T.setVm vm0) X.same N
  · rintro rfl rfl
    exact eq_of_same (s := C.s.setVm vm0) (t := T.setVm vm0) (X.same.mono hk (Nat.le_refl _)) N
  · show Q v T.heap; rw [eT]; exact hQ
  · obtain ⟨k0, S, hk0⟩ := SS
    obtain ⟨z1, z2, z3⟩ := S.ended hW (by show k0 ≤ T.heap.size; rw [eT]; exact hk0) hsame
    exact ⟨z1, z2, z3.mono hk hn⟩
theorem ret0 (O : On l Z ws R own nm bytes maxL none C T h cells slots) (hd : decode bytes pc = .ok (.return_, 1)) (hk : cells ≤ k) (hn : slots ≤ n) (hQ : Q none h) : Go C ws Q k n (T.setTop (mkF C.m pc Ls [])) := by
  refine fin O (fun _ => rfl) hk hn hQ ?_
  obtain ⟨vm0, SS, ⟨hx, hZ, rfl, -, -, -, hret, hlk⟩, ⟨L, X, N⟩, eT⟩ := O
  rintro _ fs hr rfl
  exact X.returnOut hx hret hd hr
theorem retV {t : FieldType} {w w' : Value} {i : Instr} {rest : List Value} (O : On l Z ws R own nm bytes maxL (some t) C T h cells slots) (hd : decode bytes pc = .ok (i, 1)) (hw : w' = w) (hnw : narrow t w = w)
    (hi : (i = .ireturn ∧ (t = .int ∨ t = .boolean ∨ t = .byte ∨ t = .char ∨ t = .short) ∧ ∃ z, w = .int z) ∨ (i = .lreturn ∧ t = .long ∧ ∃ z, w = .long z) ∨ (i = .dreturn ∧ t = .double ∧ ∃ z, w = .double z) ∨ (i = .freturn ∧ t = .float ∧ ∃ z, w = .float z) ∨ (i = .areturn ∧ t.isReference = true ∧ w.isRef = true))
    (hk : cells ≤ k) (hn : slots ≤ n) (hQ : Q (some w) h) : Go C ws Q k n (T.setTop (mkF C.m pc Ls (w' :: rest))) := by
  subst hw
  refine fin O (fun q => nomatch q) hk hn hQ ?_
  obtain ⟨vm0, SS, ⟨hx, hZ, rfl, -, -, -, hret, hlk⟩, ⟨L, X, N⟩, eT⟩ := O
  rintro _ fs hr rfl
  exact retOut X hx hret hnw hi hd hr
theorem retI {z z' : Int32} {rest : List Value} (O : On l Z ws R own nm bytes maxL (some .int) C T h cells slots) (hd : decode bytes pc = .ok (.ireturn, 1)) (hz : z = z') (hk : cells ≤ k) (hn : slots ≤ n) (hQ : Q (some (.int z')) h) : Go C ws Q k n (T.setTop (mkF C.m pc Ls (.int z :: rest))) :=
  retV O hd (congrArg Value.int hz) rfl (Or.inl ⟨rfl, Or.inl rfl, _, rfl⟩) hk hn hQ
theorem retB {z z' : Int32} {rest : List Value} (O : On l Z ws R own nm bytes maxL (some .boolean) C T h cells slots) (hd : decode bytes pc = .ok (.ireturn, 1)) (hz : z = z') (h01 : z' = 0 ∨ z' = 1) (hk : cells ≤ k) (hn : slots ≤ n) (hQ : Q (some (.int z')) h) : Go C ws Q k n (T.setTop (mkF C.m pc Ls (.int z :: rest))) :=
  retV O hd (congrArg Value.int hz) (by rcases h01 with rfl | rfl <;> rfl) (Or.inl ⟨rfl, Or.inr (Or.inl rfl), _, rfl⟩) hk hn hQ
theorem retY {z z' : Int32} {rest : List Value} (O : On l Z ws R own nm bytes maxL (some .byte) C T h cells slots) (hd : decode bytes pc = .ok (.ireturn, 1)) (hz : z = z') (hb : z'.toInt8.toInt32 = z') (hk : cells ≤ k) (hn : slots ≤ n) (hQ : Q (some (.int z')) h) : Go C ws Q k n (T.setTop (mkF C.m pc Ls (.int z :: rest))) :=
  retV O hd (congrArg Value.int hz) (congrArg Value.int hb) (Or.inl ⟨rfl, Or.inr (Or.inr (Or.inl rfl)), _, rfl⟩) hk hn hQ
theorem retL {z z' : Int64} {rest : List Value} (O : On l Z ws R own nm bytes maxL (some .long) C T h cells slots) (hd : decode bytes pc = .ok (.lreturn, 1)) (hz : z = z') (hk : cells ≤ k) (hn : slots ≤ n) (hQ : Q (some (.long z')) h) : Go C ws Q k n (T.setTop (mkF C.m pc Ls (.long z :: rest))) :=
  retV O hd (congrArg Value.long hz) rfl (Or.inr (Or.inl ⟨rfl, rfl, _, rfl⟩)) hk hn hQ
theorem retA {t : FieldType} {w : Value} {rest : List Value} (O : On l Z ws R own nm bytes maxL (some t) C T h cells slots) (hd : decode bytes pc = .ok (.areturn, 1)) (ht : t.isReference = true) (hw : w.isRef = true) (hnw : narrow t w = w) (hk : cells ≤ k) (hn : slots ≤ n) (hQ : Q (some w) h) : Go C ws Q k n (T.setTop (mkF C.m pc Ls (w :: rest))) :=
  retV O hd rfl hnw (Or.inr (Or.inr (Or.inr (Or.inr ⟨rfl, ht, hw⟩)))) hk hn hQ
theorem iload (O : On l Z ws R own nm bytes maxL ret C T h cells slots) {i : Nat} {v : Int32} (hd : decode bytes pc = .ok (.iload i, 2)) (hl : Ls[i]? = some (.val (.int v))) (hq : pc + 2 = q)
    (K : Go C ws Q k n (T.setTop (mkF C.m q Ls (.int v :: st)))) : Go C ws Q k n (T.setTop (mkF C.m pc Ls (st))) := by
  obtain ⟨vm0, SS, ⟨hx, -, rfl, -⟩, ⟨_, X, -⟩, -⟩ := O; subst hq
  exact K.of fun _ kk => XS.iload X.here hx rfl hd hl kk
theorem iloadN (O : On l Z ws R own nm bytes maxL ret C T h cells slots) {i : Fin 4} {v : Int32} (hd : decode bytes pc = .ok (.iload_n i, 1)) (hl : Ls[i.val]? = some (.val (.int v))) (hq : pc + 1 = q)
    (K : Go C ws Q k n (T.setTop (mkF C.m q Ls (.int v :: st)))) : Go C ws Q k n (T.setTop (mkF C.m pc Ls (st))) := by
  obtain ⟨vm0, SS, ⟨hx, -, rfl, -⟩, ⟨_, X, -⟩, -⟩ := O; subst hq
  exact K.of fun _ kk => XS.iloadN X.here hx rfl hd hl kk
theorem lload (O : On l Z ws R own nm bytes maxL ret C T h cells slots) {i : Nat} {v : Int64} (hd : decode bytes pc = .ok (.lload i, 2)) (hl : Ls[i]? = some (.val (.long v))) (hq : pc + 2 = q)
    (K : Go C ws Q k n (T.setTop (mkF C.m q Ls (.long v :: st)))) : Go C ws Q k n (T.setTop (mkF C.m pc Ls (st))) := by
  obtain ⟨vm0, SS, ⟨hx, -, rfl, -⟩, ⟨_, X, -⟩, -⟩ := O; subst hq
  exact K.of fun _ kk => XS.lload X.here hx rfl hd hl kk
theorem lloadN (O : On l Z ws R own nm bytes maxL ret C T h cells slots) {i : Fin 4} {v : Int64} (hd : decode bytes pc = .ok (.lload_n i, 1)) (hl : Ls[i.val]? = some (.val (.long v))) (hq : pc + 1 = q)
    (K : Go C ws Q k n (T.setTop (mkF C.m q Ls (.long v :: st)))) : Go C ws Q k n (T.setTop (mkF C.m pc Ls (st))) := by
  obtain ⟨vm0, SS, ⟨hx, -, rfl, -⟩, ⟨_, X, -⟩, -⟩ := O; subst hq
  exact K.of fun _ kk => XS.lloadN X.here hx rfl hd hl kk
theorem aload (O : On l Z ws R own nm bytes maxL ret C T h cells slots) {i : Nat} {v : Value} (hd : decode bytes pc = .ok (.aload i, 2)) (hl : Ls[i]? = some (.val v)) (hv : v.isRef = true) (hq : pc + 2 = q)
    (K : Go C ws Q k n (T.setTop (mkF C.m q Ls (v :: st)))) : Go C ws Q k n (T.setTop (mkF C.m pc Ls (st))) := by
  obtain ⟨vm0, SS, ⟨hx, -, rfl, -⟩, ⟨_, X, -⟩, -⟩ := O; subst hq
  exact K.of fun _ kk => XS.aload X.here hx rfl hd hl hv kk
theorem aloadN (O : On l Z ws R own nm bytes maxL ret C T h cells slots) {i : Fin 4} {v : Value} (hd : decode bytes pc = .ok (.aload_n i, 1)) (hl : Ls[i.val]? = some (.val v)) (hv : v.isRef = true) (hq : pc + 1 = q)
    (K : Go C ws Q k n (T.setTop (mkF C.m q Ls (v :: st)))) : Go C ws Q k n (T.setTop (mkF C.m pc Ls (st))) := by
  obtain ⟨vm0, SS, ⟨hx, -, rfl, -⟩, ⟨_, X, -⟩, -⟩ := O; subst hq
  exact K.of fun _ kk => XS.aloadN X.here hx rfl hd hl hv kk
theorem istore (O : On l Z ws R own nm bytes maxL ret C T h cells slots) {i : Nat} {v : Int32} (hd : decode bytes pc = .ok (.istore i, 2)) (hl : storeLocals Ls i (.int v) = some L') (hq : pc + 2 = q)
    (K : Go C ws Q k n (T.setTop (mkF C.m q L' (st)))) : Go C ws Q k n (T.setTop (mkF C.m pc Ls (.int v :: st))) := by
  obtain ⟨vm0, SS, ⟨hx, -, rfl, -⟩, ⟨_, X, -⟩, -⟩ := O; subst hq
  exact K.of fun _ kk => XS.istore X.here hx rfl hd rfl hl kk
theorem istoreN (O : On l Z ws R own nm bytes maxL ret C T h cells slots) {i : Fin 4} {v : Int32} (hd : decode bytes pc = .ok (.istore_n i, 1)) (hl : storeLocals Ls i.val (.int v) = some L') (hq : pc + 1 = q)
    (K : Go C ws Q k n (T.setTop (mkF C.m q L' (st)))) : Go C ws Q k n (T.setTop (mkF C.m pc Ls (.int v :: st))) := by
  obtain ⟨vm0, SS, ⟨hx, -, rfl, -⟩, ⟨_, X, -⟩, -⟩ := O; subst hq
  exact K.of fun _ kk => XS.istoreN X.here hx rfl hd rfl hl kk
theorem lstore (O : On l Z ws R own nm bytes maxL ret C T h cells slots) {i : Nat} {v : Int64} (hd : decode bytes pc = .ok (.lstore i, 2)) (hl : storeLocals Ls i (.long v) = some L') (hq : pc + 2 = q)
    (K : Go C ws Q k n (T.setTop (mkF C.m q L' (st)))) : Go C ws Q k n (T.setTop (mkF C.m pc Ls (.long v :: st))) := by
  obtain ⟨vm0, SS, ⟨hx, -, rfl, -⟩, ⟨_, X, -⟩, -⟩ := O; subst hq
  exact K.of fun _ kk => XS.lstore X.here hx rfl hd rfl hl kk
theorem lstoreN (O : On l Z ws R own nm bytes maxL ret C T h cells slots) {i : Fin 4} {v : Int64} (hd : decode bytes pc = .ok (.lstore_n i, 1)) (hl : storeLocals Ls i.val (.long v) = some L') (hq : pc + 1 = q)
    (K : Go C ws Q k n (T.setTop (mkF C.m q L' (st)))) : Go C ws Q k n (T.setTop (mkF C.m pc Ls (.long v :: st))) := by
  obtain ⟨vm0, SS, ⟨hx, -, rfl, -⟩, ⟨_, X, -⟩, -⟩ := O; subst hq
  exact K.of fun _ kk => XS.lstoreN X.here hx rfl hd rfl hl kk
theorem astore (O : On l Z ws R own nm bytes maxL ret C T h cells slots) {i : Nat} {v : Value} (hd : decode bytes pc = .ok (.astore i, 2)) (hv : v.isRef = true) (hl : storeLocals Ls i v = some L') (hq : pc + 2 = q)
    (K : Go C ws Q k n (T.setTop (mkF C.m q L' (st)))) : Go C ws Q k n (T.setTop (mkF C.m pc Ls (v :: st))) := by
  obtain ⟨vm0, SS, ⟨hx, -, rfl, -⟩, ⟨_, X, -⟩, -⟩ := O; subst hq
  exact K.of fun _ kk => XS.astore X.here hx rfl hd rfl hv hl kk
theorem astoreN (O : On l Z ws R own nm bytes maxL ret C T h cells slots) {i : Fin 4} {v : Value} (hd : decode bytes pc = .ok (.astore_n i, 1)) (hv : v.isRef = true) (hl : storeLocals Ls i.val v = some L') (hq : pc + 1 = q)
    (K : Go C ws Q k n (T.setTop (mkF C.m q L' (st)))) : Go C ws Q k n (T.setTop (mkF C.m pc Ls (v :: st))) := by
  obtain ⟨vm0, SS, ⟨hx, -, rfl, -⟩, ⟨_, X, -⟩, -⟩ := O; subst hq
  exact K.of fun _ kk => XS.astoreN X.here hx rfl hd rfl hv hl kk
theorem iconst (O : On l Z ws R own nm bytes maxL ret C T h cells slots) {i : Int} {r : Int32} (hd : decode bytes pc = .ok (.iconst i, 1)) (hr : Int32.ofInt i = r) (hq : pc + 1 = q)
    (K : Go C ws Q k n (T.setTop (mkF C.m q Ls (.int r :: st)))) : Go C ws Q k n (T.setTop (mkF C.m pc Ls (st))) := by
  obtain ⟨vm0, SS, ⟨hx, -, rfl, -⟩, ⟨_, X, -⟩, -⟩ := O; subst hq hr
  exact K.of fun _ kk => XS.iconst X.here hx rfl hd kk
theorem bipush (O : On l Z ws R own nm bytes maxL ret C T h cells slots) {i : Int} {r : Int32} (hd : decode bytes pc = .ok (.bipush i, 2)) (hr : (Int8.ofInt i).toInt32 = r) (hq : pc + 2 = q)
    (K : Go C ws Q k n (T.setTop (mkF C.m q Ls (.int r :: st)))) : Go C ws Q k n (T.setTop (mkF C.m pc Ls (st))) := by
  obtain ⟨vm0, SS, ⟨hx, -, rfl, -⟩, ⟨_, X, -⟩, -⟩ := O; subst hq hr
  exact K.of fun _ kk => XS.bipush X.here hx rfl hd kk
theorem sipush (O : On l Z ws R own nm bytes maxL ret C T h cells slots) {i : Int} {r : Int32} (hd : decode bytes pc = .ok (.sipush i, 3)) (hr : (Int16.ofInt i).toInt32 = r) (hq : pc + 3 = q)
    (K : Go C ws Q k n (T.setTop (mkF C.m q Ls (.int r :: st)))) : Go C ws Q k n (T.setTop (mkF C.m pc Ls (st))) := by
  obtain ⟨vm0, SS, ⟨hx, -, rfl, -⟩, ⟨_, X, -⟩, -⟩ := O; subst hq hr
  exact K.of fun _ kk => XS.sipush X.here hx rfl hd kk
theorem lconst (O : On l Z ws R own nm bytes maxL ret C T h cells slots) {i : Fin 2} {r : Int64} (hd : decode bytes pc = .ok (.lconst i, 1)) (hr : Int64.ofNat i = r) (hq : pc + 1 = q)
    (K : Go C ws Q k n (T.setTop (mkF C.m q Ls (.long r :: st)))) : Go C ws Q k n (T.setTop (mkF C.m pc Ls (st))) := by
  obtain ⟨vm0, SS, ⟨hx, -, rfl, -⟩, ⟨_, X, -⟩, -⟩ := O; subst hq hr
  exact K.of fun _ kk => XS.lconst X.here hx rfl hd kk
theorem aconst_null (O : On l Z ws R own nm bytes maxL ret C T h cells slots)  (hd : decode bytes pc = .ok (.aconst_null, 1))  (hq : pc + 1 = q)
    (K : Go C ws Q k n (T.setTop (mkF C.m q Ls (.null :: st)))) : Go C ws Q k n (T.setTop (mkF C.m pc Ls (st))) := by
  obtain ⟨vm0, SS, ⟨hx, -, rfl, -⟩, ⟨_, X, -⟩, -⟩ := O; subst hq
  exact K.of fun _ kk => XS.aconstNull X.here hx rfl hd kk
theorem iadd (O : On l Z ws R own nm bytes maxL ret C T h cells slots) {x y r : Int32} (hd : decode bytes pc = .ok (.iadd, 1)) (hr : x + y = r) (hq : pc + 1 = q)
    (K : Go C ws Q k n (T.setTop (mkF C.m q Ls (.int r :: st)))) : Go C ws Q k n (T.setTop (mkF C.m pc Ls (.int y :: .int x :: st))) := by
  obtain ⟨vm0, SS, ⟨hx, -, rfl, -⟩, ⟨_, X, -⟩, -⟩ := O; subst hq hr
  exact K.of fun _ kk => XS.iadd X.here hx rfl hd rfl kk
theorem isub (O : On l Z ws R own nm bytes maxL ret C T h cells slots) {x y r : Int32} (hd : decode bytes pc = .ok (.isub, 1)) (hr : x - y = r) (hq : pc + 1 = q)
    (K : Go C ws Q k n (T.setTop (mkF C.m q Ls (.int r :: st)))) : Go C ws Q k n (T.setTop (mkF C.m pc Ls (.int y :: .int x :: st))) := by
  obtain ⟨vm0, SS, ⟨hx, -, rfl, -⟩, ⟨_, X, -⟩, -⟩ := O; subst hq hr
  exact K.of fun _ kk => XS.isub X.here hx rfl hd rfl kk
theorem imul (O : On l Z ws R own nm bytes maxL ret C T h cells slots) {x y r : Int32} (hd : decode bytes pc = .ok (.imul, 1)) (hr : x * y = r) (hq : pc + 1 = q)
    (K : Go C ws Q k n (T.setTop (mkF C.m q Ls (.int r :: st)))) : Go C ws Q k n (T.setTop (mkF C.m pc Ls (.int y :: .int x :: st))) := by
  obtain ⟨vm0, SS, ⟨hx, -, rfl, -⟩, ⟨_, X, -⟩, -⟩ := O; subst hq hr
  exact K.of fun _ kk => XS.imul X.here hx rfl hd rfl kk
theorem iand (O : On l Z ws R own nm bytes maxL ret C T h cells slots) {x y r : Int32} (hd : decode bytes pc = .ok (.iand, 1)) (hr : x &&& y = r) (hq : pc + 1 = q)
    (K : Go C ws Q k n (T.setTop (mkF C.m q Ls (.int r :: st)))) : Go C ws Q k n (T.setTop (mkF C.m pc Ls (.int y :: .int x :: st))) := by
  obtain ⟨vm0, SS, ⟨hx, -, rfl, -⟩, ⟨_, X, -⟩, -⟩ := O; subst hq hr
  exact K.of fun _ kk => XS.iand X.here hx rfl hd rfl kk
theorem ior (O : On l Z ws R own nm bytes maxL ret C T h cells slots) {x y r : Int32} (hd : decode bytes pc = .ok (.ior, 1)) (hr : x ||| y = r) (hq : pc + 1 = q)
    (K : Go C ws Q k n (T.setTop (mkF C.m q Ls (.int r :: st)))) : Go C ws Q k n (T.setTop (mkF C.m pc Ls (.int y :: .int x :: st))) := by
  obtain ⟨vm0, SS, ⟨hx, -, rfl, -⟩, ⟨_, X, -⟩, -⟩ := O; subst hq hr
  exact K.of fun _ kk => XS.ior X.here hx rfl hd rfl kk
theorem ixor (O : On l Z ws R own nm bytes maxL ret C T h cells slots) {x y r : Int32} (hd : decode bytes pc = .ok (.ixor, 1)) (hr : x ^^^ y = r) (hq : pc + 1 = q)
    (K : Go C ws Q k n (T.setTop (mkF C.m q Ls (.int r :: st)))) : Go C ws Q k n (T.setTop (mkF C.m pc Ls (.int y :: .int x :: st))) := by
  obtain ⟨vm0, SS, ⟨hx, -, rfl, -⟩, ⟨_, X, -⟩, -⟩ := O; subst hq hr
  exact K.of fun _ kk => XS.ixor X.here hx rfl hd rfl kk
theorem ishl (O : On l Z ws R own nm bytes maxL ret C T h cells slots) {x y r : Int32} (hd : decode bytes pc = .ok (.ishl, 1)) (hr : x <<< (y &&& 31) = r) (hq : pc + 1 = q)
    (K : Go C ws Q k n (T.setTop (mkF C.m q Ls (.int r :: st)))) : Go C ws Q k n (T.setTop (mkF C.m pc Ls (.int y :: .int x :: st))) := by
  obtain ⟨vm0, SS, ⟨hx, -, rfl, -⟩, ⟨_, X, -⟩, -⟩ := O; subst hq hr
  exact K.of fun _ kk => XS.ishl X.here hx rfl hd rfl kk
theorem ishr (O : On l Z ws R own nm bytes maxL ret C T h cells slots) {x y r : Int32} (hd : decode bytes pc = .ok (.ishr, 1)) (hr : x >>> (y &&& 31) = r) (hq : pc + 1 = q)
    (K : Go C ws Q k n (T.setTop (mkF C.m q Ls (.int r :: st)))) : Go C ws Q k n (T.setTop (mkF C.m pc Ls (.int y :: .int x :: st))) := by
  obtain ⟨vm0, SS, ⟨hx, -, rfl, -⟩, ⟨_, X, -⟩, -⟩ := O; subst hq hr
  exact K.of fun _ kk => XS.ishr X.here hx rfl hd rfl kk
theorem iushr (O : On l Z ws R own nm bytes maxL ret C T h cells slots) {x y r : Int32} (hd : decode bytes pc = .ok (.iushr, 1)) (hr : (x.toUInt32 >>> (y &&& 31).toUInt32).toInt32 = r) (hq : pc + 1 = q)
    (K : Go C ws Q k n (T.setTop (mkF C.m q Ls (.int r :: st)))) : Go C ws Q k n (T.setTop (mkF C.m pc Ls (.int y :: .int x :: st))) := by
  obtain ⟨vm0, SS, ⟨hx, -, rfl, -⟩, ⟨_, X, -⟩, -⟩ := O; subst hq hr
  exact K.of fun _ kk => XS.iushr X.here hx rfl hd rfl kk
theorem idiv (O : On l Z ws R own nm bytes maxL ret C T h cells slots) {x y r : Int32} (hd : decode bytes pc = .ok (.idiv, 1)) (hy : y ≠ 0) (hr : x / y = r) (hq : pc + 1 = q)
    (K : Go C ws Q k n (T.setTop (mkF C.m q Ls (.int r :: st)))) : Go C ws Q k n (T.setTop (mkF C.m pc Ls (.int y :: .int x :: st))) := by
  obtain ⟨vm0, SS, ⟨hx, -, rfl, -⟩, ⟨_, X, -⟩, -⟩ := O; subst hq hr
  exact K.of fun _ kk => XS.idiv X.here hx rfl hd rfl hy kk
theorem irem (O : On l Z ws R own nm bytes maxL ret C T h cells slots) {x y r : Int32} (hd : decode bytes pc = .ok (.irem, 1)) (hy : y ≠ 0) (hr : x % y = r) (hq : pc + 1 = q)
    (K : Go C ws Q k n (T.setTop (mkF C.m q Ls (.int r :: st)))) : Go C ws Q k n (T.setTop (mkF C.m pc Ls (.int y :: .int x :: st))) := by
  obtain ⟨vm0, SS, ⟨hx, -, rfl, -⟩, ⟨_, X, -⟩, -⟩ := O; subst hq hr; rw [← irem_eq_mod] at K
  exact K.of fun _ kk => XS.irem X.here hx rfl hd rfl hy kk
theorem ladd (O : On l Z ws R own nm bytes maxL ret C T h cells slots) {x y r : Int64} (hd : decode bytes pc = .ok (.ladd, 1)) (hr : x + y = r) (hq : pc + 1 = q)
    (K : Go C ws Q k n (T.setTop (mkF C.m q Ls (.long r :: st)))) : Go C ws Q k n (T.setTop (mkF C.m pc Ls (.long y :: .long x :: st))) := by
  obtain ⟨vm0, SS, ⟨hx, -, rfl, -⟩, ⟨_, X, -⟩, -⟩ := O; subst hq hr
  exact K.of fun _ kk => XS.ladd X.here hx rfl hd rfl kk
theorem lsub (O : On l Z ws R own nm bytes maxL ret C T h cells slots) {x y r : Int64} (hd : decode bytes pc = .ok (.lsub, 1)) (hr : x - y = r) (hq : pc + 1 = q)
    (K : Go C ws Q k n (T.setTop (mkF C.m q Ls (.long r :: st)))) : Go C ws Q k n (T.setTop (mkF C.m pc Ls (.long y :: .long x :: st))) := by
  obtain ⟨vm0, SS, ⟨hx, -, rfl, -⟩, ⟨_, X, -⟩, -⟩ := O; subst hq hr
  exact K.of fun _ kk => XS.lsub X.here hx rfl hd rfl kk
theorem lmul (O : On l Z ws R own nm bytes maxL ret C T h cells slots) {x y r : Int64} (hd : decode bytes pc = .ok (.lmul, 1)) (hr : x * y = r) (hq : pc + 1 = q)
    (K : Go C ws Q k n (T.setTop (mkF C.m q Ls (.long r :: st)))) : Go C ws Q k n (T.setTop (mkF C.m pc Ls (.long y :: .long x :: st))) := by
  obtain ⟨vm0, SS, ⟨hx, -, rfl, -⟩, ⟨_, X, -⟩, -⟩ := O; subst hq hr
  exact K.of fun _ kk => XS.lmul X.here hx rfl hd rfl kk
theorem land (O : On l Z ws R own nm bytes maxL ret C T h cells slots) {x y r : Int64} (hd : decode bytes pc = .ok (.land, 1)) (hr : x &&& y = r) (hq : pc + 1 = q)
    (K : Go C ws Q k n (T.setTop (mkF C.m q Ls (.long r :: st)))) : Go C ws Q k n (T.setTop (mkF C.m pc Ls (.long y :: .long x :: st))) := by
  obtain ⟨vm0, SS, ⟨hx, -, rfl, -⟩, ⟨_, X, -⟩, -⟩ := O; subst hq hr
  exact K.of fun _ kk => XS.land X.here hx rfl hd rfl kk
theorem lor (O : On l Z ws R own nm bytes maxL ret C T h cells slots) {x y r : Int64} (hd : decode bytes pc = .ok (.lor, 1)) (hr : x ||| y = r) (hq : pc + 1 = q)
    (K : Go C ws Q k n (T.setTop (mkF C.m q Ls (.long r :: st)))) : Go C ws Q k n (T.setTop (mkF C.m pc Ls (.long y :: .long x :: st))) := by
  obtain ⟨vm0, SS, ⟨hx, -, rfl, -⟩, ⟨_, X, -⟩, -⟩ := O; subst hq hr
  exact K.of fun _ kk => XS.lor X.here hx rfl hd rfl kk
theorem lxor (O : On l Z ws R own nm bytes maxL ret C T h cells slots) {x y r : Int64} (hd : decode bytes pc = .ok (.lxor, 1)) (hr : x ^^^ y = r) (hq : pc + 1 = q)
    (K : Go C ws Q k n (T.setTop (mkF C.m q Ls (.long r :: st)))) : Go C ws Q k n (T.setTop (mkF C.m pc Ls (.long y :: .long x :: st))) := by
  obtain ⟨vm0, SS, ⟨hx, -, rfl, -⟩, ⟨_, X, -⟩, -⟩ := O; subst hq hr
  exact K.of fun _ kk => XS.lxor X.here hx rfl hd rfl kk
theorem ldiv (O : On l Z ws R own nm bytes maxL ret C T h cells slots) {x y r : Int64} (hd : decode bytes pc = .ok (.ldiv, 1)) (hy : y ≠ 0) (hr : x / y = r) (hq : pc + 1 = q)
    (K : Go C ws Q k n (T.setTop (mkF C.m q Ls (.long r :: st)))) : Go C ws Q k n (T.setTop (mkF C.m pc Ls (.long y :: .long x :: st))) := by
  obtain ⟨vm0, SS, ⟨hx, -, rfl, -⟩, ⟨_, X, -⟩, -⟩ := O; subst hq hr
  exact K.of fun _ kk => XS.ldiv X.here hx rfl hd rfl hy kk
theorem lrem (O : On l Z ws R own nm bytes maxL ret C T h cells slots) {x y r : Int64} (hd : decode bytes pc = .ok (.lrem, 1)) (hy : y ≠ 0) (hr : x % y = r) (hq : pc + 1 = q)
    (K : Go C ws Q k n (T.setTop (mkF C.m q Ls (.long r :: st)))) : Go C ws Q k n (T.setTop (mkF C.m pc Ls (.long y :: .long x :: st))) := by
  obtain ⟨vm0, SS, ⟨hx, -, rfl, -⟩, ⟨_, X, -⟩, -⟩ := O; subst hq hr; rw [← lrem_mod] at K
  exact K.of fun _ kk => XS.lrem X.here hx rfl hd rfl hy kk
theorem lshl (O : On l Z ws R own nm bytes maxL ret C T h cells slots) {x r : Int64} {y : Int32} (hd : decode bytes pc = .ok (.lshl, 1)) (hr : x <<< (y &&& 0x3f).toInt64 = r) (hq : pc + 1 = q)
    (K : Go C ws Q k n (T.setTop (mkF C.m q Ls (.long r :: st)))) : Go C ws Q k n (T.setTop (mkF C.m pc Ls (.int y :: .long x :: st))) := by
  obtain ⟨vm0, SS, ⟨hx, -, rfl, -⟩, ⟨_, X, -⟩, -⟩ := O; subst hq hr
  exact K.of fun _ kk => XS.lshl X.here hx rfl hd rfl kk
theorem lshr (O : On l Z ws R own nm bytes maxL ret C T h cells slots) {x r : Int64} {y : Int32} (hd : decode bytes pc = .ok (.lshr, 1)) (hr : x >>> (y &&& 0x3f).toInt64 = r) (hq : pc + 1 = q)
    (K : Go C ws Q k n (T.setTop (mkF C.m q Ls (.long r :: st)))) : Go C ws Q k n (T.setTop (mkF C.m pc Ls (.int y :: .long x :: st))) := by
  obtain ⟨vm0, SS, ⟨hx, -, rfl, -⟩, ⟨_, X, -⟩, -⟩ := O; subst hq hr
  exact K.of fun _ kk => XS.lshr X.here hx rfl hd rfl kk
theorem lushr (O : On l Z ws R own nm bytes maxL ret C T h cells slots) {x r : Int64} {y : Int32} (hd : decode bytes pc = .ok (.lushr, 1)) (hr : (x.toUInt64 >>> (y &&& 0x3f).toInt64.toUInt64).toInt64 = r) (hq : pc + 1 = q)
    (K : Go C ws Q k n (T.setTop (mkF C.m q Ls (.long r :: st)))) : Go C ws Q k n (T.setTop (mkF C.m pc Ls (.int y :: .long x :: st))) := by
  obtain ⟨vm0, SS, ⟨hx, -, rfl, -⟩, ⟨_, X, -⟩, -⟩ := O; subst hq hr
  exact K.of fun _ kk => XS.lushr X.here hx rfl hd rfl kk
theorem ineg (O : On l Z ws R own nm bytes maxL ret C T h cells slots) {x : Int32} {r : Int32} (hd : decode bytes pc = .ok (.ineg, 1)) (hr : -x = r) (hq : pc + 1 = q)
    (K : Go C ws Q k n (T.setTop (mkF C.m q Ls (.int r :: st)))) : Go C ws Q k n (T.setTop (mkF C.m pc Ls (.int x :: st))) := by
  obtain ⟨vm0, SS, ⟨hx, -, rfl, -⟩, ⟨_, X, -⟩, -⟩ := O; subst hq hr
  exact K.of fun _ kk => XS.ineg X.here hx rfl hd rfl kk
theorem lneg (O : On l Z ws R own nm bytes maxL ret C T h cells slots) {x : Int64} {r : Int64} (hd : decode bytes pc = .ok (.lneg, 1)) (hr : -x = r) (hq : pc + 1 = q)
    (K : Go C ws Q k n (T.setTop (mkF C.m q Ls (.long r :: st)))) : Go C ws Q k n (T.setTop (mkF C.m pc Ls (.long x :: st))) := by
  obtain ⟨vm0, SS, ⟨hx, -, rfl, -⟩, ⟨_, X, -⟩, -⟩ := O; subst hq hr
  exact K.of fun _ kk => XS.lneg X.here hx rfl hd rfl kk
theorem i2l (O : On l Z ws R own nm bytes maxL ret C T h cells slots) {x : Int32} {r : Int64} (hd : decode bytes pc = .ok (.i2l, 1)) (hr : x.toInt64 = r) (hq : pc + 1 = q)
    (K : Go C ws Q k n (T.setTop (mkF C.m q Ls (.long r :: st)))) : Go C ws Q k n (T.setTop (mkF C.m pc Ls (.int x :: st))) := by
  obtain ⟨vm0, SS, ⟨hx, -, rfl, -⟩, ⟨_, X, -⟩, -⟩ := O; subst hq hr
  exact K.of fun _ kk => XS.i2l X.here hx rfl hd rfl kk
theorem l2i (O : On l Z ws R own nm bytes maxL ret C T h cells slots) {x : Int64} {r : Int32} (hd : decode bytes pc = .ok (.l2i, 1)) (hr : x.toInt32 = r) (hq : pc + 1 = q)
    (K : Go C ws Q k n (T.setTop (mkF C.m q Ls (.int r :: st)))) : Go C ws Q k n (T.setTop (mkF C.m pc Ls (.long x :: st))) := by
  obtain ⟨vm0, SS, ⟨hx, -, rfl, -⟩, ⟨_, X, -⟩, -⟩ := O; subst hq hr
  exact K.of fun _ kk => XS.l2i X.here hx rfl hd rfl kk
theorem i2b (O : On l Z ws R own nm bytes maxL ret C T h cells slots) {x : Int32} {r : Int32} (hd : decode bytes pc = .ok (.i2b, 1)) (hr : x.toInt8.toInt32 = r) (hq : pc + 1 = q)
    (K : Go C ws Q k n (T.setTop (mkF C.m q Ls (.int r :: st)))) : Go C ws Q k n (T.setTop (mkF C.m pc Ls (.int x :: st))) := by
  obtain ⟨vm0, SS, ⟨hx, -, rfl, -⟩, ⟨_, X, -⟩, -⟩ := O; subst hq hr
  exact K.of fun _ kk => XS.i2b X.here hx rfl hd rfl kk
theorem i2c (O : On l Z ws R own nm bytes maxL ret C T h cells slots) {x : Int32} {r : Int32} (hd : decode bytes pc = .ok (.i2c, 1)) (hr : x.toUInt32.toUInt16.toUInt32.toInt32 = r) (hq : pc + 1 = q)
    (K : Go C ws Q k n (T.setTop (mkF C.m q Ls (.int r :: st)))) : Go C ws Q k n (T.setTop (mkF C.m pc Ls (.int x :: st))) := by
  obtain ⟨vm0, SS, ⟨hx, -, rfl, -⟩, ⟨_, X, -⟩, -⟩ := O; subst hq hr
  exact K.of fun _ kk => XS.i2c X.here hx rfl hd rfl kk
theorem i2s (O : On l Z ws R own nm bytes maxL ret C T h cells slots) {x : Int32} {r : Int32} (hd : decode bytes pc = .ok (.i2s, 1)) (hr : x.toInt16.toInt32 = r) (hq : pc + 1 = q)
    (K : Go C ws Q k n (T.setTop (mkF C.m q Ls (.int r :: st)))) : Go C ws Q k n (T.setTop (mkF C.m pc Ls (.int x :: st))) := by
  obtain ⟨vm0, SS, ⟨hx, -, rfl, -⟩, ⟨_, X, -⟩, -⟩ := O; subst hq hr
  exact K.of fun _ kk => XS.i2s X.here hx rfl hd rfl kk
theorem lcmp (O : On l Z ws R own nm bytes maxL ret C T h cells slots) {x y : Int64} {r : Int32} (hd : decode bytes pc = .ok (.lcmp, 1)) (hr : lcmpW x y = r) (hq : pc + 1 = q)
    (K : Go C ws Q k n (T.setTop (mkF C.m q Ls (.int r :: st)))) : Go C ws Q k n (T.setTop (mkF C.m pc Ls (.long y :: .long x :: st))) := by
  obtain ⟨vm0, SS, ⟨hx, -, rfl, -⟩, ⟨_, X, -⟩, -⟩ := O; subst hq hr
  exact K.of fun _ kk => XS.lcmp X.here hx rfl hd rfl kk
theorem iinc (O : On l Z ws R own nm bytes maxL ret C T h cells slots) {i : Nat} {cst : Int} {x : Int32} (hd : decode bytes pc = .ok (.iinc i cst, 3)) (hl : Ls[i]? = some (.val (.int x))) (hl' : storeLocals Ls i (.int (x + Int32.ofInt cst)) = some L') (hq : pc + 3 = q)
    (K : Go C ws Q k n (T.setTop (mkF C.m q L' (st)))) : Go C ws Q k n (T.setTop (mkF C.m pc Ls (st))) := by
  obtain ⟨vm0, SS, ⟨hx, -, rfl, -⟩, ⟨_, X, -⟩, -⟩ := O; subst hq
  exact K.of fun _ kk => XS.iinc X.here hx rfl hd hl hl' kk
theorem dup (O : On l Z ws R own nm bytes maxL ret C T h cells slots) {v : Value} (hd : decode bytes pc = .ok (.dup, 1)) (hc : v.category = 1) (hq : pc + 1 = q)
    (K : Go C ws Q k n (T.setTop (mkF C.m q Ls (v :: v :: st)))) : Go C ws Q k n (T.setTop (mkF C.m pc Ls (v :: st))) := by
  obtain ⟨vm0, SS, ⟨hx, -, rfl, -⟩, ⟨_, X, -⟩, -⟩ := O; subst hq
  exact K.of fun _ kk => XS.dup X.here hx rfl hd rfl hc kk
theorem pop (O : On l Z ws R own nm bytes maxL ret C T h cells slots) {v : Value} (hd : decode bytes pc = .ok (.pop, 1)) (hc : v.category = 1) (hq : pc + 1 = q)
    (K : Go C ws Q k n (T.setTop (mkF C.m q Ls (st)))) : Go C ws Q k n (T.setTop (mkF C.m pc Ls (v :: st))) := by
  obtain ⟨vm0, SS, ⟨hx, -, rfl, -⟩, ⟨_, X, -⟩, -⟩ := O; subst hq
  exact K.of fun _ kk => XS.pop X.here hx rfl hd rfl hc kk
theorem dup_x1 (O : On l Z ws R own nm bytes maxL ret C T h cells slots) {v w : Value} (hd : decode bytes pc = .ok (.dup_x1, 1)) (hc : v.category = 1) (hc' : w.category = 1) (hq : pc + 1 = q)
    (K : Go C ws Q k n (T.setTop (mkF C.m q Ls (v :: w :: v :: st)))) : Go C ws Q k n (T.setTop (mkF C.m pc Ls (v :: w :: st))) := by
  obtain ⟨vm0, SS, ⟨hx, -, rfl, -⟩, ⟨_, X, -⟩, -⟩ := O; subst hq
  exact K.of fun _ kk => XS.dupX1 X.here hx rfl hd rfl hc hc' kk
theorem dup2 (O : On l Z ws R own nm bytes maxL ret C T h cells slots) {v w : Value} (hd : decode bytes pc = .ok (.dup2, 1)) (hc : v.category = 1) (hc' : w.category = 1) (hq : pc + 1 = q)
    (K : Go C ws Q k n (T.setTop (mkF C.m q Ls (v :: w :: v :: w :: st)))) : Go C ws Q k n (T.setTop (mkF C.m pc Ls (v :: w :: st))) := by
  obtain ⟨vm0, SS, ⟨hx, -, rfl, -⟩, ⟨_, X, -⟩, -⟩ := O; subst hq
  exact K.of fun _ kk => XT.dup2 X.here hx rfl hd rfl hc hc' kk
theorem dup2L (O : On l Z ws R own nm bytes maxL ret C T h cells slots) {v : Int64} (hd : decode bytes pc = .ok (.dup2, 1))  (hq : pc + 1 = q)
    (K : Go C ws Q k n (T.setTop (mkF C.m q Ls (.long v :: .long v :: st)))) : Go C ws Q k n (T.setTop (mkF C.m pc Ls (.long v :: st))) := by
  obtain ⟨vm0, SS, ⟨hx, -, rfl, -⟩, ⟨_, X, -⟩, -⟩ := O; subst hq
  exact K.of fun _ kk => XT.dup2L X.here hx rfl hd rfl kk
theorem goto (O : On l Z ws R own nm bytes maxL ret C T h cells slots)  {o : Int} (hd : decode bytes pc = .ok (.goto o, 3))  (ho : 0 ≤ (pc : Int) + o) (hq : ((pc : Int) + o).toNat = q)
    (K : Go C ws Q k n (T.setTop (mkF C.m q Ls st))) : Go C ws Q k n (T.setTop (mkF C.m pc Ls (st))) := by
  obtain ⟨vm0, SS, ⟨hx, -, rfl, -⟩, ⟨_, X, -⟩, -⟩ := O
  exact K.of fun _ kk => XS.goto X.here hx rfl (pc0 := pc) (pc' := q) rfl hd  ho hq kk
theorem ifYes (O : On l Z ws R own nm bytes maxL ret C T h cells slots) {cd : ClassFile.Cond} {x : Int32} {o : Int} (hd : decode bytes pc = .ok (.ifCond cd o, 3)) (hc : ifCond.holds cd x = true) (ho : 0 ≤ (pc : Int) + o) (hq : ((pc : Int) + o).toNat = q)
    (K : Go C ws Q k n (T.setTop (mkF C.m q Ls st))) : Go C ws Q k n (T.setTop (mkF C.m pc Ls (.int x :: st))) := by
  obtain ⟨vm0, SS, ⟨hx, -, rfl, -⟩, ⟨_, X, -⟩, -⟩ := O
  exact K.of fun _ kk => XS.ifYes X.here hx rfl (pc0 := pc) (pc' := q) rfl hd rfl hc ho hq kk
theorem icmpYes (O : On l Z ws R own nm bytes maxL ret C T h cells slots) {cd : ClassFile.Cond} {x y : Int32} {o : Int} (hd : decode bytes pc = .ok (.if_icmp cd o, 3)) (hc : if_icmp.holds cd x y = true) (ho : 0 ≤ (pc : Int) + o) (hq : ((pc : Int) + o).toNat = q)
    (K : Go C ws Q k n (T.setTop (mkF C.m q Ls st))) : Go C ws Q k n (T.setTop (mkF C.m pc Ls (.int y :: .int x :: st))) := by
  obtain ⟨vm0, SS, ⟨hx, -, rfl, -⟩, ⟨_, X, -⟩, -⟩ := O
  exact K.of fun _ kk => XS.icmpYes X.here hx rfl (pc0 := pc) (pc' := q) rfl hd rfl hc ho hq kk
theorem ifnullYes (O : On l Z ws R own nm bytes maxL ret C T h cells slots)  {o : Int} (hd : decode bytes pc = .ok (.ifnull o, 3))  (ho : 0 ≤ (pc : Int) + o) (hq : ((pc : Int) + o).toNat = q)
    (K : Go C ws Q k n (T.setTop (mkF C.m q Ls st))) : Go C ws Q k n (T.setTop (mkF C.m pc Ls (.null :: st))) := by
  obtain ⟨vm0, SS, ⟨hx, -, rfl, -⟩, ⟨_, X, -⟩, -⟩ := O
  exact K.of fun _ kk => XS.ifnullYes X.here hx rfl (pc0 := pc) (pc' := q) rfl hd rfl ho hq kk
theorem ifnonnullYes (O : On l Z ws R own nm bytes maxL ret C T h cells slots) {b : Addr} {o : Int} (hd : decode bytes pc = .ok (.ifnonnull o, 3))  (ho : 0 ≤ (pc : Int) + o) (hq : ((pc : Int) + o).toNat = q)
    (K : Go C ws Q k n (T.setTop (mkF C.m q Ls st))) : Go C ws Q k n (T.setTop (mkF C.m pc Ls (.ref b :: st))) := by
  obtain ⟨vm0, SS, ⟨hx, -, rfl, -⟩, ⟨_, X, -⟩, -⟩ := O
  exact K.of fun _ kk => XS.ifnonnullYes X.here hx rfl (pc0 := pc) (pc' := q) rfl hd rfl ho hq kk
theorem ifNo (O : On l Z ws R own nm bytes maxL ret C T h cells slots) {cd : ClassFile.Cond} {x : Int32} {o : Int} (hd : decode bytes pc = .ok (.ifCond cd o, 3)) (hc : ifCond.holds cd x = false) (hq : pc + 3 = q)
    (K : Go C ws Q k n (T.setTop (mkF C.m q Ls (st)))) : Go C ws Q k n (T.setTop (mkF C.m pc Ls (.int x :: st))) := by
  obtain ⟨vm0, SS, ⟨hx, -, rfl, -⟩, ⟨_, X, -⟩, -⟩ := O; subst hq
  exact K.of fun _ kk => XS.ifNo X.here hx rfl hd rfl hc kk
theorem icmpNo (O : On l Z ws R own nm bytes maxL ret C T h cells slots) {cd : ClassFile.Cond} {x y : Int32} {o : Int} (hd : decode bytes pc = .ok (.if_icmp cd o, 3)) (hc : if_icmp.holds cd x y = false) (hq : pc + 3 = q)
    (K : Go C ws Q k n (T.setTop (mkF C.m q Ls (st)))) : Go C ws Q k n (T.setTop (mkF C.m pc Ls (.int y :: .int x :: st))) := by
  obtain ⟨vm0, SS, ⟨hx, -, rfl, -⟩, ⟨_, X, -⟩, -⟩ := O; subst hq
  exact K.of fun _ kk => XS.icmpNo X.here hx rfl hd rfl hc kk
theorem ifnullNo (O : On l Z ws R own nm bytes maxL ret C T h cells slots) {b : Addr} {o : Int} (hd : decode bytes pc = .ok (.ifnull o, 3))  (hq : pc + 3 = q)
    (K : Go C ws Q k n (T.setTop (mkF C.m q Ls (st)))) : Go C ws Q k n (T.setTop (mkF C.m pc Ls (.ref b :: st))) := by
  obtain ⟨vm0, SS, ⟨hx, -, rfl, -⟩, ⟨_, X, -⟩, -⟩ := O; subst hq
  exact K.of fun _ kk => XS.ifnullNo X.here hx rfl hd rfl kk
theorem ifnonnullNo (O : On l Z ws R own nm bytes maxL ret C T h cells slots) {o : Int} (hd : decode bytes pc = .ok (.ifnonnull o, 3))  (hq : pc + 3 = q)
    (K : Go C ws Q k n (T.setTop (mkF C.m q Ls (st)))) : Go C ws Q k n (T.setTop (mkF C.m pc Ls (.null :: st))) := by
  obtain ⟨vm0, SS, ⟨hx, -, rfl, -⟩, ⟨_, X, -⟩, -⟩ := O; subst hq
  exact K.of fun _ kk => XS.ifnonnullNo X.here hx rfl hd rfl kk
theorem acmp (O : On l Z ws R own nm bytes maxL ret C T h cells slots) {cd : ACond} {x y : Value} {o : Int} {same : Bool} (hd : decode bytes pc = .ok (.if_acmp cd o, 3)) (h1 : x.isRef = true) (h2 : y.isRef = true) (hs : decide (x = y) = same) (ho : 0 ≤ (pc : Int) + o) (hq : q = if acV cd same = true then ((pc : Int) + o).toNat else pc + 3)
    (K : Go C ws Q k n (T.setTop (mkF C.m q Ls st))) : Go C ws Q k n (T.setTop (mkF C.m pc Ls (y :: x :: st))) := by
  obtain ⟨vm0, SS, ⟨hx, -, rfl, -⟩, ⟨_, X, -⟩, -⟩ := O
  exact K.of fun _ kk => Jvm.RoadKit.acmp (g := mkF C.m pc Ls (y :: x :: st)) X hx rfl h1 h2 (pc0 := pc) (pc' := q) rfl hd rfl hs ho hq kk
theorem ldcI (O : On l Z ws R own nm bytes maxL ret C T h cells slots) {i : Nat} {v : Int32} (hd : decode bytes pc = .ok (.ldc i, 2)) (w : (Cond.constant own i v).before a0 Z = true) (hq : pc + 2 = q)
    (K : Go C ws Q k n (T.setTop (mkF C.m q Ls (.int v :: st)))) : Go C ws Q k n (T.setTop (mkF C.m pc Ls st)) := by
  obtain ⟨vm0, SS, ⟨hx, hZ, rfl, -, hown, -⟩, ⟨_, X, -⟩, -⟩ := O; subst hq
  exact K.of fun _ kk => X.ldcInt hx hown (mvT hZ w) (g := mkF C.m pc Ls st) rfl hd _ kk
theorem ldcwI (O : On l Z ws R own nm bytes maxL ret C T h cells slots) {i : Nat} {v : Int32} (hd : decode bytes pc = .ok (.ldc_w i, 3)) (w : (Cond.constant own i v).before a0 Z = true) (hq : pc + 3 = q)
    (K : Go C ws Q k n (T.setTop (mkF C.m q Ls (.int v :: st)))) : Go C ws Q k n (T.setTop (mkF C.m pc Ls st)) := by
  obtain ⟨vm0, SS, ⟨hx, hZ, rfl, -, hown, -⟩, ⟨_, X, -⟩, -⟩ := O; subst hq
  exact K.of fun _ kk => X.ldcwInt hx hown (mvT hZ w) (g := mkF C.m pc Ls st) rfl hd _ kk
theorem ldcL (O : On l Z ws R own nm bytes maxL ret C T h cells slots) {i : Nat} {v : Int64} (hd : decode bytes pc = .ok (.ldc2_w i, 3)) (w : (Cond.constantLong own i v).before a0 Z = true) (hq : pc + 3 = q)
    (K : Go C ws Q k n (T.setTop (mkF C.m q Ls (.long v :: st)))) : Go C ws Q k n (T.setTop (mkF C.m pc Ls st)) := by
  obtain ⟨vm0, SS, ⟨hx, hZ, rfl, -, hown, -⟩, ⟨_, X, -⟩, -⟩ := O; subst hq
  exact K.of fun _ kk => X.ldc2Long hx hown (mvT hZ w) (g := mkF C.m pc Ls st) rfl hd _ kk
theorem getF (O : On l Z ws R own nm bytes maxL ret C T h cells slots) {i : Nat} {R0 D f d host : String} {a : Addr} {v : Value} (hd : decode bytes pc = .ok (.getfield i, 3)) (w : (Cond.fieldLink own i R0 f d).before a0 Z = true ∨ (Cond.fieldLinkNest own i R0 f d host).before a0 Z = true) (via : Via Z R0 D f d) (F : Fld Z h a D f d v) (hq : pc + 3 = q)
    (K : ∀ T', On l Z ws R own nm bytes maxL ret C T' h cells slots → Go C ws Q k n (T'.setTop (mkF C.m q Ls (v :: st)))) : Go C ws Q k n (T.setTop (mkF C.m pc Ls (.ref a :: st))) := by
  obtain ⟨vm0, SS, ⟨hx, hZ, rfl, r1, hown, r2⟩, ⟨_, X, N⟩, eT⟩ := O; subst hq
  obtain ⟨T', X', e', stp⟩ := Jvm.RoadKit.getF X hx hZ hown w via eT F (g := mkF C.m pc Ls (.ref a :: st)) rfl rfl hd
  exact (K T' ⟨vm0, SS, ⟨hx, hZ, rfl, r1, hown, r2⟩, ⟨_, X', N⟩, e'⟩).of fun _ kk => stp _ kk
theorem getS (O : On l Z ws R own nm bytes maxL ret C T h cells slots) {i : Nat} {D f d : String} {v : Value} (hd : decode bytes pc = .ok (.getstatic i, 3)) (w : (Cond.fieldLink own i D f d).before a0 Z = true) (F : Sta Z h D f d v) (hq : pc + 3 = q)
    (K : ∀ T', On l Z ws R own nm bytes maxL ret C T' h cells slots → Go C ws Q k n (T'.setTop (mkF C.m q Ls (v :: st)))) : Go C ws Q k n (T.setTop (mkF C.m pc Ls st)) := by
  obtain ⟨vm0, SS, ⟨hx, hZ, rfl, r1, hown, r2⟩, ⟨_, X, N⟩, eT⟩ := O; subst hq
  obtain ⟨T', X', e', stp⟩ := Jvm.RoadKit.getS (host := "") X hx hZ hown w Via.refl eT F (g := mkF C.m pc Ls st) rfl hd
  exact (K T' ⟨vm0, SS, ⟨hx, hZ, rfl, r1, hown, r2⟩, ⟨_, X', N⟩, e'⟩).of fun _ kk => stp _ kk
theorem putF (O : On l Z ws R own nm bytes maxL ret C T h cells slots) {i kk : Nat} {R0 D f d host K0 : String} {ty : FieldType} {a : Addr} {v old : Value} (hd : decode bytes pc = .ok (.putfield i, 3)) (w : (Cond.fieldLink own i R0 f d).before a0 Z = true ∨ (Cond.fieldLinkNest own i R0 f d host).before a0 Z = true) (via : Via Z R0 D f d)
    (F : Fld Z h a D f d old) (E : Exa Z h a K0) (L : (Cond.lays K0 D f d).before a0 Z = true ∨ ((Cond.laysFinal K0 D f d).before a0 Z = true ∧ own = D ∧ nm = "<init>")) (wi : (Cond.instantiable K0 kk).before a0 Z = true) (hty : parseFieldDescriptor d = some ty) (hn : narrow ty v = v) (hf : fits ty v = true) (ha : a ∈ ws ∨ C.s.heap.size ≤ a) (hq : pc + 3 = q)
    (K : ∀ T' h', On l Z ws R own nm bytes maxL ret C T' h' cells slots → Wr h h' a (Jvm.RoadKit.slotOf Z D f d) v → Go C ws Q k n (T'.setTop (mkF C.m q Ls st))) : Go C ws Q k n (T.setTop (mkF C.m pc Ls (v :: .ref a :: st))) := by
  obtain ⟨vm0, SS, ⟨hx, hZ, rfl, r1, hown, hnm, r2⟩, ⟨_, X, N⟩, eT⟩ := O; subst hq
  obtain ⟨T', h', X', e', W, stp⟩ := Jvm.RoadKit.putF X hx hZ hown w via eT F E (L.imp id fun q => ⟨q.1, q.2.1, hnm.trans q.2.2⟩) wi hty hn hf (g := mkF C.m pc Ls (v :: .ref a :: st)) rfl rfl hd
  exact (K T' h' ⟨vm0, (grow SS (wr_le W)), ⟨hx, hZ, rfl, r1, hown, hnm, r2⟩, ⟨_, X', N.snoc ha⟩, e'⟩ W).of fun _ kk => stp _ kk
theorem newO (O : On l Z ws R own nm bytes maxL ret C T h cells slots) {i ns c2 s2 : Nat} {K0 : String} (hd : decode bytes pc = .ok (.new i, 3)) (w : (Cond.classLink own i K0).before a0 Z = true) (wi : (Cond.instantiable K0 ns).before a0 Z = true) (wz : (Cond.initialized K0).before a0 Z = true) (hc2 : cells + 1 = c2) (hs2 : slots + ns = s2) (hc : c2 ≤ R.cells) (hl : s2 ≤ R.slots) (hq : pc + 3 = q)
    (K : ∀ a T' h', a = h.size → C.s.heap.size ≤ a → On l Z ws R own nm bytes maxL ret C T' h' c2 s2 → Ext h h' → Exa Z h' a K0 → (∀ {O nm d : String} {ty : FieldType}, Laid Z a0 K0 O nm d → parseFieldDescriptor d = some ty → Fld Z h' a O nm d (defaultValue ty)) → Go C ws Q k n (T'.setTop (mkF C.m q Ls (.ref a :: st)))) : Go C ws Q k n (T.setTop (mkF C.m pc Ls st)) := by
  obtain ⟨vm0, SS, ⟨hx, hZ, rfl, r1, hown, r2⟩, ⟨_, X, N⟩, eT⟩ := O; subst hq hc2 hs2
  obtain ⟨T', h', X', e', E, A, D, -, stp⟩ := Jvm.RoadKit.newO X hx hZ hown w wi wz eT (g := mkF C.m pc Ls st) rfl hd hc hl
  exact (K _ T' h' rfl (by rw [← eT]; exact X.same.2.1) ⟨vm0, (grow SS E.1), ⟨hx, hZ, rfl, r1, hown, r2⟩, ⟨_, X', N⟩, e'⟩ E A D).of fun _ kk => stp _ kk
theorem newP (O : On l Z ws R own nm bytes maxL ret C T h cells slots) {aty : ArrayType} {c2 s2 : Nat} (hd : decode bytes pc = .ok (.newarray aty, 2)) (w : (Cond.arrayClass (newarray.typeOf aty)).before a0 Z = true) {z : Int32} (hn : ¬ z < 0) {cap : Nat} (hcap : z.toNatClampNeg ≤ cap) (hb : cap * 8 ≤ 536870912) (hc2 : cells + 1 = c2) (hs2 : slots + cap = s2) (hc : c2 ≤ R.cells) (hl : s2 ≤ R.slots) (hq : pc + 2 = q)
    (K : ∀ a T' h' cA, a = h.size → C.s.heap.size ≤ a → On l Z ws R own nm bytes maxL ret C T' h' c2 s2 → Ext h h' → Arr Z h' a (newA cA (newarray.typeOf aty) z) (newarray.typeOf aty) → Go C ws Q k n (T'.setTop (mkF C.m q Ls (.ref a :: st)))) : Go C ws Q k n (T.setTop (mkF C.m pc Ls (.int z :: st))) := by
  obtain ⟨vm0, SS, ⟨hx, hZ, rfl, r1, hown, r2⟩, ⟨_, X, N⟩, eT⟩ := O; subst hq hc2 hs2
  obtain ⟨T', h', cA, X', e', E, A, stp⟩ := Jvm.RoadKit.newP X hx hZ w eT (g := mkF C.m pc Ls (.int z :: st)) rfl hd rfl hn hcap hb hc hl
  exact (K _ T' h' cA rfl (by rw [← eT]; exact X.same.2.1) ⟨vm0, (grow SS E.1), ⟨hx, hZ, rfl, r1, hown, r2⟩, ⟨_, X', N⟩, e'⟩ E A).of fun _ kk => stp _ kk
theorem initO (O : On l Z ws R own nm bytes maxL ret C T h cells slots) {i : Nat} {a : Addr} (hd : decode bytes pc = .ok (.invokespecial i, 3)) (w1 : (Cond.methodLink own i Lib.objectInit).before a0 Z = true) (w2 : (Cond.instanceMethod Lib.objectInit).before a0 Z = true) (w3 : (Cond.code Lib.objectInit ⟨#[0xb1]⟩ 1 none).before a0 Z = true) (hsz : Ls.size = maxL) (hf : 1 ≤ R.frames) {W : Nat} (hW : (st.map fun v => v.category).sum ≤ W) (hl : W + 12 ≤ R.locals) (hq : pc + 3 = q)
    (K : ∀ T', On l Z ws R own nm bytes maxL ret C T' h cells slots → Go C ws Q k n (T'.setTop (mkF C.m q Ls st))) : Go C ws Q k n (T.setTop (mkF C.m pc Ls (.ref a :: st))) := by
  obtain ⟨vm0, SS, ⟨hx, hZ, rfl, r1, hown, r2⟩, ⟨_, X, N⟩, eT⟩ := O; subst hq
  obtain ⟨T', X', e', stp⟩ := Jvm.RoadKit.initO X hx hZ hown w1 w2 w3 eT (g := mkF C.m pc Ls (.ref a :: st)) rfl (hsz.trans r1.symm) rfl hd hf (W := W) (by show 2 * 0 + _ ≤ _; rw [Nat.mul_zero, Nat.zero_add]; exact hW) hl
  exact (K T' ⟨vm0, SS, ⟨hx, hZ, rfl, r1, hown, r2⟩, ⟨_, X', N⟩, e'⟩).of fun _ kk => stp _ kk
theorem iaload (O : On l Z ws R own nm bytes maxL ret C T h cells slots) {a : Addr} {cl : Cell} {j : Int32} {v : Value} (hd : decode bytes pc = .ok (.iaload, 1)) (A : Arr Z h a cl .int) (hin : ¬ (j < 0 ∨ cl.slots.size ≤ j.toNatClampNeg)) (hv : cl.slots[j.toNatClampNeg]? = some v) (hq : pc + 1 = q)
    (K : Go C ws Q k n (T.setTop (mkF C.m q Ls (v :: st)))) : Go C ws Q k n (T.setTop (mkF C.m pc Ls (.int j :: .ref a :: st))) := by
  obtain ⟨vm0, SS, ⟨hx, hZ, rfl, -⟩, ⟨_, X, N⟩, eT⟩ := O; subst hq
  exact K.of fun _ kk => X.iaload hx (by rw [eT]; exact A.1) (State.isArrayOf_alike hZ.alike A.2.1) A.2.2 hin hv (g := mkF C.m pc Ls (.int j :: .ref a :: st)) rfl rfl hd _ kk
theorem laload (O : On l Z ws R own nm bytes maxL ret C T h cells slots) {a : Addr} {cl : Cell} {j : Int32} {v : Value} (hd : decode bytes pc = .ok (.laload, 1)) (A : Arr Z h a cl .long) (hin : ¬ (j < 0 ∨ cl.slots.size ≤ j.toNatClampNeg)) (hv : cl.slots[j.toNatClampNeg]? = some v) (hq : pc + 1 = q)
    (K : Go C ws Q k n (T.setTop (mkF C.m q Ls (v :: st)))) : Go C ws Q k n (T.setTop (mkF C.m pc Ls (.int j :: .ref a :: st))) := by
  obtain ⟨vm0, SS, ⟨hx, hZ, rfl, -⟩, ⟨_, X, N⟩, eT⟩ := O; subst hq
  exact K.of fun _ kk => X.laload hx (by rw [eT]; exact A.1) (State.isArrayOf_alike hZ.alike A.2.1) A.2.2 hin hv (g := mkF C.m pc Ls (.int j :: .ref a :: st)) rfl rfl hd _ kk
theorem baload (O : On l Z ws R own nm bytes maxL ret C T h cells slots) {a : Addr} {cl : Cell} {j : Int32} {v : Value} (hd : decode bytes pc = .ok (.baload, 1)) (A : Arr Z h a cl .byte) (hin : ¬ (j < 0 ∨ cl.slots.size ≤ j.toNatClampNeg)) (hv : cl.slots[j.toNatClampNeg]? = some v) (hq : pc + 1 = q)
    (K : Go C ws Q k n (T.setTop (mkF C.m q Ls (v :: st)))) : Go C ws Q k n (T.setTop (mkF C.m pc Ls (.int j :: .ref a :: st))) := by
  obtain ⟨vm0, SS, ⟨hx, hZ, rfl, -⟩, ⟨_, X, N⟩, eT⟩ := O; subst hq
  exact K.of fun _ kk => X.baloadBytes hx (by rw [eT]; exact A.1) (State.isArrayOf_alike hZ.alike A.2.1) A.2.2 hin hv (g := mkF C.m pc Ls (.int j :: .ref a :: st)) rfl rfl hd _ kk
theorem aaload (O : On l Z ws R own nm bytes maxL ret C T h cells slots) {a : Addr} {cl : Cell} {ty : FieldType} {j : Int32} {v : Value} (hd : decode bytes pc = .ok (.aaload, 1)) (A : Arr Z h a cl ty) (hty : ty.isReference = true) (hin : ¬ (j < 0 ∨ cl.slots.size ≤ j.toNatClampNeg)) (hv : cl.slots[j.toNatClampNeg]? = some v) (hq : pc + 1 = q)
    (K : Go C ws Q k n (T.setTop (mkF C.m q Ls (v :: st)))) : Go C ws Q k n (T.setTop (mkF C.m pc Ls (.int j :: .ref a :: st))) := by
  obtain ⟨vm0, SS, ⟨hx, hZ, rfl, -⟩, ⟨_, X, N⟩, eT⟩ := O; subst hq
  exact K.of fun _ kk => X.aaload hx (by rw [eT]; exact A.1) (State.isArrayOf_alike hZ.alike A.2.1) hty A.2.2 hin hv (g := mkF C.m pc Ls (.int j :: .ref a :: st)) rfl rfl hd _ kk
theorem arraylength (O : On l Z ws R own nm bytes maxL ret C T h cells slots) {a : Addr} {cl : Cell} {ty : FieldType} {z : Int32} (hd : decode bytes pc = .ok (.arraylength, 1)) (A : Arr Z h a cl ty) (hz : cl.slots.size.toInt32 = z) (hq : pc + 1 = q)
    (K : Go C ws Q k n (T.setTop (mkF C.m q Ls (.int z :: st)))) : Go C ws Q k n (T.setTop (mkF C.m pc Ls (.ref a :: st))) := by
  obtain ⟨vm0, SS, ⟨hx, hZ, rfl, -⟩, ⟨_, X, N⟩, eT⟩ := O; subst hq hz
  exact K.of fun _ kk => X.arraylength hx (by rw [eT]; exact A.1) (State.isArrayOf_alike hZ.alike A.2.1) (g := mkF C.m pc Ls (.ref a :: st)) rfl rfl hd _ kk
theorem iastore (O : On l Z ws R own nm bytes maxL ret C T h cells slots) {a : Addr} {cl : Cell} {j : Int32} {x : Int32} (hd : decode bytes pc = .ok (.iastore, 1)) (A : Arr Z h a cl .int) (hin : ¬ (j < 0 ∨ cl.slots.size ≤ j.toNatClampNeg)) (ha : a ∈ ws ∨ C.s.heap.size ≤ a) (hq : pc + 1 = q)
    (K : ∀ T' h', On l Z ws R own nm bytes maxL ret C T' h' cells slots → Wr h h' a j.toNatClampNeg (.int x) → Go C ws Q k n (T'.setTop (mkF C.m q Ls st))) : Go C ws Q k n (T.setTop (mkF C.m pc Ls (.int x :: .int j :: .ref a :: st))) := by
  obtain ⟨vm0, SS, ⟨hx, hZ, rfl, r1, hown, r2⟩, ⟨_, X, N⟩, eT⟩ := O; subst hq
  obtain ⟨T', h', X', e', W, stp⟩ := Jvm.RoadKit.stI X hx hZ eT A hin (g := mkF C.m pc Ls (.int x :: .int j :: .ref a :: st)) rfl rfl hd
  exact (K T' h' ⟨vm0, (grow SS (wr_le W)), ⟨hx, hZ, rfl, r1, hown, r2⟩, ⟨_, X', N.snoc ha⟩, e'⟩ W).of fun _ kk => stp _ kk
theorem lastore (O : On l Z ws R own nm bytes maxL ret C T h cells slots) {a : Addr} {cl : Cell} {j : Int32} {x : Int64} (hd : decode bytes pc = .ok (.lastore, 1)) (A : Arr Z h a cl .long) (hin : ¬ (j < 0 ∨ cl.slots.size ≤ j.toNatClampNeg)) (ha : a ∈ ws ∨ C.s.heap.size ≤ a) (hq : pc + 1 = q)
    (K : ∀ T' h', On l Z ws R own nm bytes maxL ret C T' h' cells slots → Wr h h' a j.toNatClampNeg (.long x) → Go C ws Q k n (T'.setTop (mkF C.m q Ls st))) : Go C ws Q k n (T.setTop (mkF C.m pc Ls (.long x :: .int j :: .ref a :: st))) := by
  obtain ⟨vm0, SS, ⟨hx, hZ, rfl, r1, hown, r2⟩, ⟨_, X, N⟩, eT⟩ := O; subst hq
  obtain ⟨T', h', X', e', W, stp⟩ := Jvm.RoadKit.stJ X hx hZ eT A hin (g := mkF C.m pc Ls (.long x :: .int j :: .ref a :: st)) rfl rfl hd
  exact (K T' h' ⟨vm0, (grow SS (wr_le W)), ⟨hx, hZ, rfl, r1, hown, r2⟩, ⟨_, X', N.snoc ha⟩, e'⟩ W).of fun _ kk => stp _ kk
theorem bastore (O : On l Z ws R own nm bytes maxL ret C T h cells slots) {a : Addr} {cl : Cell} {j : Int32} {x : Int32} (hd : decode bytes pc = .ok (.bastore, 1)) (A : Arr Z h a cl .byte) (hin : ¬ (j < 0 ∨ cl.slots.size ≤ j.toNatClampNeg)) (ha : a ∈ ws ∨ C.s.heap.size ≤ a) (hq : pc + 1 = q)
    (K : ∀ T' h', On l Z ws R own nm bytes maxL ret C T' h' cells slots → Wr h h' a j.toNatClampNeg (.int (nar .byte x)) → Go C ws Q k n (T'.setTop (mkF C.m q Ls st))) : Go C ws Q k n (T.setTop (mkF C.m pc Ls (.int x :: .int j :: .ref a :: st))) := by
  obtain ⟨vm0, SS, ⟨hx, hZ, rfl, r1, hown, r2⟩, ⟨_, X, N⟩, eT⟩ := O; subst hq
  obtain ⟨T', h', X', e', W, stp⟩ := Jvm.RoadKit.stB X hx hZ eT A hin (g := mkF C.m pc Ls (.int x :: .int j :: .ref a :: st)) rfl rfl hd
  exact (K T' h' ⟨vm0, (grow SS (wr_le W)), ⟨hx, hZ, rfl, r1, hown, r2⟩, ⟨_, X', N.snoc ha⟩, e'⟩ W).of fun _ kk => stp _ kk
theorem callS (O : On l Z ws R own nm bytes maxL ret C T h cells slots) {i : Nat} {y : MethodName} {yb : ByteArray} {yl : Nat} {yr : Option FieldType} {rm : Room} {argsL rest : List Value} {wsc : List Addr} {Qc : Option Value → Heap → Prop} {ps : List FieldType} {rr : Option FieldType} {W c2 s2 : Nat}
    (hd : decode bytes pc = .ok (.invokestatic i, 3)) (w1 : (Cond.methodLink own i y).before a0 Z = true) (w2 : (Cond.static y).before a0 Z = true) (w3 : (Cond.initialized y.cls).before a0 Z = true) (w4 : (Cond.code y yb yl yr).before a0 Z = true) (hy : y.cls ≠ "java/lang/invoke/MethodHandle" ∧ y.cls ≠ "java/lang/invoke/VarHandle")
    (hM : Met l Z y yb yl yr [] rm (argsL).toArray wsc h Qc) (hsz : Ls.size = maxL) (hpd : parseMethodDescriptor y.desc = some ⟨ps, rr⟩) (hlen : argsL.length = ps.length) (hst : st = argsL.reverse ++ rest) (hW : (rest.map fun v => v.category).sum ≤ W)
    (hf : rm.frames + 1 ≤ R.frames) (hl : W + (yl + 11) + rm.locals ≤ R.locals) (hc2 : cells + rm.cells = c2) (hs2 : slots + rm.slots = s2) (hcl : c2 ≤ R.cells) (hsl : s2 ≤ R.slots) (hws : ∀ x ∈ wsc, x ∈ ws ∨ C.s.heap.size ≤ x) (hq : pc + 3 = q)
    (K : ∀ v T' h', On l Z ws R own nm bytes maxL ret C T' h' c2 s2 → Keep h h' wsc → Qc v h' → Go C ws Q k n (T'.setTop (mkF C.m q Ls (v.toList ++ rest)))) : Go C ws Q k n (T.setTop (mkF C.m pc Ls st)) := by
  obtain ⟨vm0, SS, ⟨hx, hZ, rfl, r1, hown, r2⟩, ⟨locs, X, N⟩, eT⟩ := O; subst hq hc2 hs2
  obtain ⟨v, _, ⟨T', L', k', n'⟩, -, X', h2, hgr, ⟨Lc, hQ, l', y', z'⟩, stp⟩ := Jvm.RoadKit.callSS X hx (y := y) hown (mvT hZ w1) (mvT hZ w2) (mvT hZ w3) (mvT hZ w4) hy (backOfS (W := W) (Q := Post wsc rm.cells h Qc) hM hZ w4 w3 hf hl) (g := mkF C.m pc Ls st) rfl (hsz.trans r1.symm) (argsL := argsL) (rest := rest) (lenOf hpd hlen) hst (by show 2 * 0 + _ ≤ _; rw [Nat.mul_zero, Nat.zero_add]; exact hW) hd (fun _ _ => ⟨rfl, eT, hcl, hsl⟩)
  dsimp only [Pt.U, Pt.locs, Pt.cells, Pt.slots] at X' h2 hgr l' y' z' stp hQ
  subst l' y' z'
  obtain ⟨hF, hK, hE, hQ⟩ := hQ
  obtain ⟨k0, hS, hk0⟩ := SS
  obtain ⟨X', hS', hZ', hown'⟩ := rebS hS hk0 X' h2 (eT ▸ hgr) hZ hown
  have hb : C.s.heap.size ≤ h.size := by rw [← eT]; exact X.same.2.1
  exact (K v T' T'.heap ⟨T'.vm, ⟨_, hS', Nat.le_refl _⟩, ⟨hx, hZ', rfl, r1, hown', r2⟩, ⟨_, X', N.app fun y hy => (hF y hy).elim (hws _) fun z => Or.inr (Nat.le_trans hb z)⟩, rfl⟩ hK hQ).via stp
theorem callS0 (O : On l Z ws R own nm bytes maxL ret C T h cells slots) {i : Nat} {y : MethodName} {yb : ByteArray} {yl : Nat} {yr : Option FieldType} {rm : Room} {argsL rest : List Value} {wsc : List Addr} {Qc : Option Value → Heap → Prop} {ps : List FieldType} {rr : Option FieldType} {W c2 s2 : Nat}
    (hd : decode bytes pc = .ok (.invokestatic i, 3)) (w1 : (Cond.methodLink own i y).before a0 Z = true) (w2 : (Cond.static y).before a0 Z = true) (w3 : (Cond.initialized y.cls).before a0 Z = true) (w4 : (Cond.code y yb yl yr).before a0 Z = true) (hy : y.cls ≠ "java/lang/invoke/MethodHandle" ∧ y.cls ≠ "java/lang/invoke/VarHandle")
    (hM : Met l Z y yb yl yr [] rm (argsL).toArray wsc h Qc) (hsz : Ls.size = maxL) (hpd : parseMethodDescriptor y.desc = some ⟨ps, rr⟩) (hlen : argsL.length = ps.length) (hst : st = argsL.reverse ++ rest) (hW : (rest.map fun v => v.category).sum ≤ W)
    (hf : rm.frames + 1 ≤ R.frames) (hl : W + (yl + 11) + rm.locals ≤ R.locals) (hc2 : cells + rm.cells = c2) (hs2 : slots + rm.slots = s2) (hcl : c2 ≤ R.cells) (hsl : s2 ≤ R.slots) (hrc : rm.cells = 0) (hwc : wsc = []) (hq : pc + 3 = q)
    (K : ∀ v T', On l Z ws R own nm bytes maxL ret C T' h c2 s2 → Qc v h → Go C ws Q k n (T'.setTop (mkF C.m q Ls (v.toList ++ rest)))) : Go C ws Q k n (T.setTop (mkF C.m pc Ls st)) := by
  obtain ⟨vm0, SS, ⟨hx, hZ, rfl, r1, hown, r2⟩, ⟨locs, X, N⟩, eT⟩ := O; subst hq hc2 hs2
  obtain ⟨v, _, ⟨T', L', k', n'⟩, -, X', h2, hgr, ⟨Lc, hQ, l', y', z'⟩, stp⟩ := Jvm.RoadKit.callSS X hx (y := y) hown (mvT hZ w1) (mvT hZ w2) (mvT hZ w3) (mvT hZ w4) hy (backOfS (W := W) (Q := Post wsc rm.cells h Qc) hM hZ w4 w3 hf hl) (g := mkF C.m pc Ls st) rfl (hsz.trans r1.symm) (argsL := argsL) (rest := rest) (lenOf hpd hlen) hst (by show 2 * 0 + _ ≤ _; rw [Nat.mul_zero, Nat.zero_add]; exact hW) hd (fun _ _ => ⟨rfl, eT, hcl, hsl⟩)
  dsimp only [Pt.U, Pt.locs, Pt.cells, Pt.slots] at X' h2 hgr l' y' z' stp hQ
  subst l' y' z'
  obtain ⟨hF, hK, hE, hQ⟩ := hQ
  obtain ⟨k0, hS, hk0⟩ := SS
  obtain ⟨X', hS', hZ', hown'⟩ := rebS hS hk0 X' h2 (eT ▸ hgr) hZ hown
  have hb : C.s.heap.size ≤ h.size := by rw [← eT]; exact X.same.2.1
  have he : T'.heap = h := hE hrc hwc
  refine (K v T' ⟨T'.vm, ⟨_, hS', Nat.le_of_eq (congrArg Array.size he)⟩, ⟨hx, hZ', rfl, r1, hown', r2⟩, ⟨_, X', N.app fun y hy => (hF y hy).elim (fun z => by rw [hwc] at z; cases z) fun z => Or.inr (Nat.le_trans hb z)⟩, he⟩ (he ▸ hQ)).via stp
theorem callI (O : On l Z ws R own nm bytes maxL ret C T h cells slots) {i : Nat} {y : MethodName} {yb : ByteArray} {yl : Nat} {rm : Room} {argsL rest : List Value} {wsc : List Addr} {Qc : Option Value → Heap → Prop} {ps : List FieldType} {rr : Option FieldType} {W c2 s2 : Nat} {a : Addr}
    (hd : decode bytes pc = .ok (.invokespecial i, 3)) (hy1 : y.name = "<init>") (w1 : (Cond.methodLink own i y).before a0 Z = true) (w2 : (Cond.instanceMethod y).before a0 Z = true) (w3 : (Cond.initialized y.cls).before a0 Z = true) (w4 : (Cond.code y yb yl none).before a0 Z = true) (hy : y.cls ≠ "java/lang/invoke/MethodHandle" ∧ y.cls ≠ "java/lang/invoke/VarHandle")
    (hM : Met l Z y yb yl none [] rm (Value.ref a :: argsL).toArray wsc h Qc) (hsz : Ls.size = maxL) (hpd : parseMethodDescriptor y.desc = some ⟨ps, rr⟩) (hlen : argsL.length = ps.length) (hst : st = argsL.reverse ++ .ref a :: rest) (hW : (rest.map fun v => v.category).sum ≤ W)
    (hf : rm.frames + 1 ≤ R.frames) (hl : W + (yl + 11) + rm.locals ≤ R.locals) (hc2 : cells + rm.cells = c2) (hs2 : slots + rm.slots = s2) (hcl : c2 ≤ R.cells) (hsl : s2 ≤ R.slots) (hws : ∀ x ∈ wsc, x ∈ ws ∨ C.s.heap.size ≤ x) (hq : pc + 3 = q)
    (K : ∀ v T' h', On l Z ws R own nm bytes maxL ret C T' h' c2 s2 → Keep h h' wsc → Qc v h' → Go C ws Q k n (T'.setTop (mkF C.m q Ls (v.toList ++ rest)))) : Go C ws Q k n (T.setTop (mkF C.m pc Ls st)) := by
  obtain ⟨vm0, SS, ⟨hx, hZ, rfl, r1, hown, r2⟩, ⟨locs, X, N⟩, eT⟩ := O; subst hq hc2 hs2
  obtain ⟨v, _, ⟨T', L', k', n'⟩, -, X', h2, hgr, ⟨Lc, hQ, l', y', z'⟩, stp⟩ := X.specialBackS hx (y := y) hy1 hown (mvT hZ w1) (mvT hZ w2) (mvT hZ w4) hy (backOfS (W := W) (Q := Post wsc rm.cells h Qc) hM hZ w4 w3 hf hl) (g := mkF C.m pc Ls st) rfl (hsz.trans r1.symm) (Steps.refl _) (a := a) (argsL := argsL) (rest := rest) (lenOf hpd hlen) hst (by show 2 * 0 + _ ≤ _; rw [Nat.mul_zero, Nat.zero_add]; exact hW) hd (fun _ _ => ⟨rfl, eT, hcl, hsl⟩)
  dsimp only [Pt.U, Pt.locs, Pt.cells, Pt.slots] at X' h2 hgr l' y' z' stp hQ
  subst l' y' z'
  obtain ⟨hF, hK, hE, hQ⟩ := hQ
  obtain ⟨k0, hS, hk0⟩ := SS
  obtain ⟨X', hS', hZ', hown'⟩ := rebS hS hk0 X' h2 (eT ▸ hgr) hZ hown
  have hb : C.s.heap.size ≤ h.size := by rw [← eT]; exact X.same.2.1
  exact (K v T' T'.heap ⟨T'.vm, ⟨_, hS', Nat.le_refl _⟩, ⟨hx, hZ', rfl, r1, hown', r2⟩, ⟨_, X', N.app fun y hy => (hF y hy).elim (hws _) fun z => Or.inr (Nat.le_trans hb z)⟩, rfl⟩ hK hQ).via (stp)
theorem callI0 (O : On l Z ws R own nm bytes maxL ret C T h cells slots) {i : Nat} {y : MethodName} {yb : ByteArray} {yl : Nat} {rm : Room} {argsL rest : List Value} {wsc : List Addr} {Qc : Option Value → Heap → Prop} {ps : List FieldType} {rr : Option FieldType} {W c2 s2 : Nat} {a : Addr}
    (hd : decode bytes pc = .ok (.invokespecial i, 3)) (hy1 : y.name = "<init>") (w1 : (Cond.methodLink own i y).before a0 Z = true) (w2 : (Cond.instanceMethod y).before a0 Z = true) (w3 : (Cond.initialized y.cls).before a0 Z = true) (w4 : (Cond.code y yb yl none).before a0 Z = true) (hy : y.cls ≠ "java/lang/invoke/MethodHandle" ∧ y.cls ≠ "java/lang/invoke/VarHandle")
    (hM : Met l Z y yb yl none [] rm (Value.ref a :: argsL).toArray wsc h Qc) (hsz : Ls.size = maxL) (hpd : parseMethodDescriptor y.desc = some ⟨ps, rr⟩) (hlen : argsL.length = ps.length) (hst : st = argsL.reverse ++ .ref a :: rest) (hW : (rest.map fun v => v.category).sum ≤ W)
    (hf : rm.frames + 1 ≤ R.frames) (hl : W + (yl + 11) + rm.locals ≤ R.locals) (hc2 : cells + rm.cells = c2) (hs2 : slots + rm.slots = s2) (hcl : c2 ≤ R.cells) (hsl : s2 ≤ R.slots) (hrc : rm.cells = 0) (hwc : wsc = []) (hq : pc + 3 = q)
    (K : ∀ v T', On l Z ws R own nm bytes maxL ret C T' h c2 s2 → Qc v h → Go C ws Q k n (T'.setTop (mkF C.m q Ls (v.toList ++ rest)))) : Go C ws Q k n (T.setTop (mkF C.m pc Ls st)) := by
  obtain ⟨vm0, SS, ⟨hx, hZ, rfl, r1, hown, r2⟩, ⟨locs, X, N⟩, eT⟩ := O; subst hq hc2 hs2
  obtain ⟨v, _, ⟨T', L', k', n'⟩, -, X', h2, hgr, ⟨Lc, hQ, l', y', z'⟩, stp⟩ := X.specialBackS hx (y := y) hy1 hown (mvT hZ w1) (mvT hZ w2) (mvT hZ w4) hy (backOfS (W := W) (Q := Post wsc rm.cells h Qc) hM hZ w4 w3 hf hl) (g := mkF C.m pc Ls st) rfl (hsz.trans r1.symm) (Steps.refl _) (a := a) (argsL := argsL) (rest := rest) (lenOf hpd hlen) hst (by show 2 * 0 + _ ≤ _; rw [Nat.mul_zero, Nat.zero_add]; exact hW) hd (fun _ _ => ⟨rfl, eT, hcl, hsl⟩)
  dsimp only [Pt.U, Pt.locs, Pt.cells, Pt.slots] at X' h2 hgr l' y' z' stp hQ
  subst l' y' z'
  obtain ⟨hF, hK, hE, hQ⟩ := hQ
  obtain ⟨k0, hS, hk0⟩ := SS
  obtain ⟨X', hS', hZ', hown'⟩ := rebS hS hk0 X' h2 (eT ▸ hgr) hZ hown
  have hb : C.s.heap.size ≤ h.size := by rw [← eT]; exact X.same.2.1
  have he : T'.heap = h := hE hrc hwc
  refine (K v T' ⟨T'.vm, ⟨_, hS', Nat.le_of_eq (congrArg Array.size he)⟩, ⟨hx, hZ', rfl, r1, hown', r2⟩, ⟨_, X', N.app fun y hy => (hF y hy).elim (fun z => by rw [hwc] at z; cases z) fun z => Or.inr (Nat.le_trans hb z)⟩, he⟩ (he ▸ hQ)).via (stp)
theorem callV (O : On l Z ws R own nm bytes maxL ret C T h cells slots) {i : Nat} {y z : MethodName} {yb : ByteArray} {yl : Nat} {yr : Option FieldType} {rm : Room} {argsL rest : List Value} {wsc : List Addr} {Qc : Option Value → Heap → Prop} {ps : List FieldType} {rr : Option FieldType} {W c2 s2 : Nat} {a : Addr} {K0 : String}
    (hd : decode bytes pc = .ok (.invokevirtual i, 3)) (w1 : (Cond.methodLink own i y).before a0 Z = true) (wd : (Cond.declares y).before a0 Z = true) (ws1 : (Cond.selects K0 y z).before a0 Z = true) (hyz : y = z) (w2 : (Cond.instanceMethod z).before a0 Z = true) (w3 : (Cond.initialized z.cls).before a0 Z = true) (w4 : (Cond.code z yb yl yr).before a0 Z = true) (hy : y.cls ≠ "java/lang/invoke/MethodHandle" ∧ y.cls ≠ "java/lang/invoke/VarHandle")
    (hM : Met l Z z yb yl yr [] rm (Value.ref a :: argsL).toArray wsc h Qc) (E : Exa Z h a K0) (hsz : Ls.size = maxL) (hpd : parseMethodDescriptor y.desc = some ⟨ps, rr⟩) (hlen : argsL.length = ps.length) (hst : st = argsL.reverse ++ .ref a :: rest) (hW : (rest.map fun v => v.category).sum ≤ W)
    (hf : rm.frames + 1 ≤ R.frames) (hl : W + (yl + 11) + rm.locals ≤ R.locals) (hc2 : cells + rm.cells = c2) (hs2 : slots + rm.slots = s2) (hcl : c2 ≤ R.cells) (hsl : s2 ≤ R.slots) (hws : ∀ x ∈ wsc, x ∈ ws ∨ C.s.heap.size ≤ x) (hq : pc + 3 = q)
    (K : ∀ v T' h', On l Z ws R own nm bytes maxL ret C T' h' c2 s2 → Keep h h' wsc → Qc v h' → Go C ws Q k n (T'.setTop (mkF C.m q Ls (v.toList ++ rest)))) : Go C ws Q k n (T.setTop (mkF C.m pc Ls st)) := by
  obtain ⟨vm0, SS, ⟨hx, hZ, rfl, r1, hown, r2⟩, ⟨locs, X, N⟩, eT⟩ := O; subst hq hc2 hs2
  subst hyz
  obtain ⟨_, _, q1, -, q3⟩ := isOf hZ eT E
  obtain ⟨v, _, ⟨T', L', k', n'⟩, -, X', h2, hgr, ⟨Lc, hQ, l', y', z'⟩, stp⟩ := X.virtualBackS hx (y := y) (z := y) hown (mvT hZ w1) (mvT hZ wd) (notFace_of_selects (args := #[]) (mvT hZ ws1)) (mvT hZ ws1) (mvT hZ w2) hy (backOfS (W := W) (Q := Post wsc rm.cells h Qc) hM hZ w4 w3 hf hl) q1 q3 (g := mkF C.m pc Ls st) rfl (hsz.trans r1.symm) (Steps.refl _) (argsL := argsL) (rest := rest) (lenOf hpd hlen) hst (by show 2 * 0 + _ ≤ _; rw [Nat.mul_zero, Nat.zero_add]; exact hW) hd (fun _ _ => ⟨rfl, eT, hcl, hsl⟩)
  dsimp only [Pt.U, Pt.locs, Pt.cells, Pt.slots] at X' h2 hgr l' y' z' stp hQ
  subst l' y' z'
  obtain ⟨hF, hK, hE, hQ⟩ := hQ
  obtain ⟨k0, hS, hk0⟩ := SS
  obtain ⟨X', hS', hZ', hown'⟩ := rebS hS hk0 X' h2 (eT ▸ hgr) hZ hown
  have hb : C.s.heap.size ≤ h.size := by rw [← eT]; exact X.same.2.1
  exact (K v T' T'.heap ⟨T'.vm, ⟨_, hS', Nat.le_refl _⟩, ⟨hx, hZ', rfl, r1, hown', r2⟩, ⟨_, X', N.app fun y hy => (hF y hy).elim (hws _) fun z => Or.inr (Nat.le_trans hb z)⟩, rfl⟩ hK hQ).via (stp)
theorem callV0 (O : On l Z ws R own nm bytes maxL ret C T h cells slots) {i : Nat} {y z : MethodName} {yb : ByteArray} {yl : Nat} {yr : Option FieldType} {rm : Room} {argsL rest : List Value} {wsc : List Addr} {Qc : Option Value → Heap → Prop} {ps : List FieldType} {rr : Option FieldType} {W c2 s2 : Nat} {a : Addr} {K0 : String}
    (hd : decode bytes pc = .ok (.invokevirtual i, 3)) (w1 : (Cond.methodLink own i y).before a0 Z = true) (wd : (Cond.declares y).before a0 Z = true) (ws1 : (Cond.selects K0 y z).before a0 Z = true) (hyz : y = z) (w2 : (Cond.instanceMethod z).before a0 Z = true) (w3 : (Cond.initialized z.cls).before a0 Z = true) (w4 : (Cond.code z yb yl yr).before a0 Z = true) (hy : y.cls ≠ "java/lang/invoke/MethodHandle" ∧ y.cls ≠ "java/lang/invoke/VarHandle")
    (hM : Met l Z z yb yl yr [] rm (Value.ref a :: argsL).toArray wsc h Qc) (E : Exa Z h a K0) (hsz : Ls.size = maxL) (hpd : parseMethodDescriptor y.desc = some ⟨ps, rr⟩) (hlen : argsL.length = ps.length) (hst : st = argsL.reverse ++ .ref a :: rest) (hW : (rest.map fun v => v.category).sum ≤ W)
    (hf : rm.frames + 1 ≤ R.frames) (hl : W + (yl + 11) + rm.locals ≤ R.locals) (hc2 : cells + rm.cells = c2) (hs2 : slots + rm.slots = s2) (hcl : c2 ≤ R.cells) (hsl : s2 ≤ R.slots) (hrc : rm.cells = 0) (hwc : wsc = []) (hq : pc + 3 = q)
    (K : ∀ v T', On l Z ws R own nm bytes maxL ret C T' h c2 s2 → Qc v h → Go C ws Q k n (T'.setTop (mkF C.m q Ls (v.toList ++ rest)))) : Go C ws Q k n (T.setTop (mkF C.m pc Ls st)) := by
  obtain ⟨vm0, SS, ⟨hx, hZ, rfl, r1, hown, r2⟩, ⟨locs, X, N⟩, eT⟩ := O; subst hq hc2 hs2
  subst hyz
  obtain ⟨_, _, q1, -, q3⟩ := isOf hZ eT E
  obtain ⟨v, _, ⟨T', L', k', n'⟩, -, X', h2, hgr, ⟨Lc, hQ, l', y', z'⟩, stp⟩ := X.virtualBackS hx (y := y) (z := y) hown (mvT hZ w1) (mvT hZ wd) (notFace_of_selects (args := #[]) (mvT hZ ws1)) (mvT hZ ws1) (mvT hZ w2) hy (backOfS (W := W) (Q := Post wsc rm.cells h Qc) hM hZ w4 w3 hf hl) q1 q3 (g := mkF C.m pc Ls st) rfl (hsz.trans r1.symm) (Steps.refl _) (argsL := argsL) (rest := rest) (lenOf hpd hlen) hst (by show 2 * 0 + _ ≤ _; rw [Nat.mul_zero, Nat.zero_add]; exact hW) hd (fun _ _ => ⟨rfl, eT, hcl, hsl⟩)
  dsimp only [Pt.U, Pt.locs, Pt.cells, Pt.slots] at X' h2 hgr l' y' z' stp hQ
  subst l' y' z'
  obtain ⟨hF, hK, hE, hQ⟩ := hQ
  obtain ⟨k0, hS, hk0⟩ := SS
  obtain ⟨X', hS', hZ', hown'⟩ := rebS hS hk0 X' h2 (eT ▸ hgr) hZ hown
  have hb : C.s.heap.size ≤ h.size := by rw [← eT]; exact X.same.2.1
  have he : T'.heap = h := hE hrc hwc
  refine (K v T' ⟨T'.vm, ⟨_, hS', Nat.le_of_eq (congrArg Array.size he)⟩, ⟨hx, hZ', rfl, r1, hown', r2⟩, ⟨_, X', N.app fun y hy => (hF y hy).elim (fun z => by rw [hwc] at z; cases z) fun z => Or.inr (Nat.le_trans hb z)⟩, he⟩ (he ▸ hQ)).via (stp)
theorem callP (O : On l Z ws R own nm bytes maxL ret C T h cells slots) {i : Nat} {y : MethodName} {yb : ByteArray} {yl : Nat} {yr : Option FieldType} {rm : Room} {argsL rest : List Value} {wsc : List Addr} {Qc : Option Value → Heap → Prop} {ps : List FieldType} {rr : Option FieldType} {W c2 s2 : Nat} {a : Addr} {K0 : String} {ik : Nat}
    (hd : decode bytes pc = .ok (.invokevirtual i, 3)) (w1 : (Cond.methodLink own i y).before a0 Z = true) (w2 : (Cond.instanceMethod y).before a0 Z = true) (wp : (Cond.privateMethod y).before a0 Z = true) (wi : (Cond.instantiable y.cls ik).before a0 Z = true) (w3 : (Cond.initialized y.cls).before a0 Z = true) (w4 : (Cond.code y yb yl yr).before a0 Z = true) (hy : y.cls ≠ "java/lang/invoke/MethodHandle" ∧ y.cls ≠ "java/lang/invoke/VarHandle")
    (hM : Met l Z y yb yl yr [] rm (Value.ref a :: argsL).toArray wsc h Qc) (E : Exa Z h a K0) (hsz : Ls.size = maxL) (hpd : parseMethodDescriptor y.desc = some ⟨ps, rr⟩) (hlen : argsL.length = ps.length) (hst : st = argsL.reverse ++ .ref a :: rest) (hW : (rest.map fun v => v.category).sum ≤ W)
    (hf : rm.frames + 1 ≤ R.frames) (hl : W + (yl + 11) + rm.locals ≤ R.locals) (hc2 : cells + rm.cells = c2) (hs2 : slots + rm.slots = s2) (hcl : c2 ≤ R.cells) (hsl : s2 ≤ R.slots) (hws : ∀ x ∈ wsc, x ∈ ws ∨ C.s.heap.size ≤ x) (hq : pc + 3 = q)
    (K : ∀ v T' h', On l Z ws R own nm bytes maxL ret C T' h' c2 s2 → Keep h h' wsc → Qc v h' → Go C ws Q k n (T'.setTop (mkF C.m q Ls (v.toList ++ rest)))) : Go C ws Q k n (T.setTop (mkF C.m pc Ls st)) := by
  obtain ⟨vm0, SS, ⟨hx, hZ, rfl, r1, hown, r2⟩, ⟨locs, X, N⟩, eT⟩ := O; subst hq hc2 hs2
  obtain ⟨cI, kI, i1, i2, -, i4, -⟩ := Cond.instantiable_spec (mvT (args := C.args) hZ wi)
  have hpv : (C.s.setVm vm0).PrivateAt y := Cond.privateMethod_at (mvP (args := #[]) hZ wp)
  have hsel := selects_self_of_private i1 i2 (Bool.or_eq_false_iff.mp i4).1 hpv (mvT (args := C.args) hZ w2) hy
  obtain ⟨cq, q1, q2⟩ := E.cell
  obtain ⟨v, _, ⟨T', L', k', n'⟩, -, X', h2, hgr, ⟨Lc, hQ, l', y', z'⟩, stp⟩ := X.privateBackS hx (y := y) hown (mvT hZ w1) (mvT hZ w2) hsel hpv (mvT hZ w4) hy (backOfS (W := W) (Q := Post wsc rm.cells h Qc) hM hZ w4 w3 hf hl) (g := mkF C.m pc Ls st) rfl (hsz.trans r1.symm) (Steps.refl _) (a := a) (by rw [eT]; exact q1) q2 (argsL := argsL) (rest := rest) (lenOf hpd hlen) hst (by show 2 * 0 + _ ≤ _; rw [Nat.mul_zero, Nat.zero_add]; exact hW) hd (fun _ _ => ⟨rfl, eT, hcl, hsl⟩)
  dsimp only [Pt.U, Pt.locs, Pt.cells, Pt.slots] at X' h2 hgr l' y' z' stp hQ
  subst l' y' z'
  obtain ⟨hF, hK, hE, hQ⟩ := hQ
  obtain ⟨k0, hS, hk0⟩ := SS
  obtain ⟨X', hS', hZ', hown'⟩ := rebS hS hk0 X' h2 (eT ▸ hgr) hZ hown
  have hb : C.s.heap.size ≤ h.size := by rw [← eT]; exact X.same.2.1
  exact (K v T' T'.heap ⟨T'.vm, ⟨_, hS', Nat.le_refl _⟩, ⟨hx, hZ', rfl, r1, hown', r2⟩, ⟨_, X', N.app fun y hy => (hF y hy).elim (hws _) fun z => Or.inr (Nat.le_trans hb z)⟩, rfl⟩ hK hQ).via (stp)
theorem callP0 (O : On l Z ws R own nm bytes maxL ret C T h cells slots) {i : Nat} {y : MethodName} {yb : ByteArray} {yl : Nat} {yr : Option FieldType} {rm : Room} {argsL rest : List Value} {wsc : List Addr} {Qc : Option Value → Heap → Prop} {ps : List FieldType} {rr : Option FieldType} {W c2 s2 : Nat} {a : Addr} {K0 : String} {ik : Nat}
    (hd : decode bytes pc = .ok (.invokevirtual i, 3)) (w1 : (Cond.methodLink own i y).before a0 Z = true) (w2 : (Cond.instanceMethod y).before a0 Z = true) (wp : (Cond.privateMethod y).before a0 Z = true) (wi : (Cond.instantiable y.cls ik).before a0 Z = true) (w3 : (Cond.initialized y.cls).before a0 Z = true) (w4 : (Cond.code y yb yl yr).before a0 Z = true) (hy : y.cls ≠ "java/lang/invoke/MethodHandle" ∧ y.cls ≠ "java/lang/invoke/VarHandle")
    (hM : Met l Z y yb yl yr [] rm (Value.ref a :: argsL).toArray wsc h Qc) (E : Exa Z h a K0) (hsz : Ls.size = maxL) (hpd : parseMethodDescriptor y.desc = some ⟨ps, rr⟩) (hlen : argsL.length = ps.length) (hst : st = argsL.reverse ++ .ref a :: rest) (hW : (rest.map fun v => v.category).sum ≤ W)
    (hf : rm.frames + 1 ≤ R.frames) (hl : W + (yl + 11) + rm.locals ≤ R.locals) (hc2 : cells + rm.cells = c2) (hs2 : slots + rm.slots = s2) (hcl : c2 ≤ R.cells) (hsl : s2 ≤ R.slots) (hrc : rm.cells = 0) (hwc : wsc = []) (hq : pc + 3 = q)
    (K : ∀ v T', On l Z ws R own nm bytes maxL ret C T' h c2 s2 → Qc v h → Go C ws Q k n (T'.setTop (mkF C.m q Ls (v.toList ++ rest)))) : Go C ws Q k n (T.setTop (mkF C.m pc Ls st)) := by
  obtain ⟨vm0, SS, ⟨hx, hZ, rfl, r1, hown, r2⟩, ⟨locs, X, N⟩, eT⟩ := O; subst hq hc2 hs2
  obtain ⟨cI, kI, i1, i2, -, i4, -⟩ := Cond.instantiable_spec (mvT (args := C.args) hZ wi)
  have hpv : (C.s.setVm vm0).PrivateAt y := Cond.privateMethod_at (mvP (args := #[]) hZ wp)
  have hsel := selects_self_of_private i1 i2 (Bool.or_eq_false_iff.mp i4).1 hpv (mvT (args := C.args) hZ w2) hy
  obtain ⟨cq, q1, q2⟩ := E.cell
  obtain ⟨v, _, ⟨T', L', k', n'⟩, -, X', h2, hgr, ⟨Lc, hQ, l', y', z'⟩, stp⟩ := X.privateBackS hx (y := y) hown (mvT hZ w1) (mvT hZ w2) hsel hpv (mvT hZ w4) hy (backOfS (W := W) (Q := Post wsc rm.cells h Qc) hM hZ w4 w3 hf hl) (g := mkF C.m pc Ls st) rfl (hsz.trans r1.symm) (Steps.refl _) (a := a) (by rw [eT]; exact q1) q2 (argsL := argsL) (rest := rest) (lenOf hpd hlen) hst (by show 2 * 0 + _ ≤ _; rw [Nat.mul_zero, Nat.zero_add]; exact hW) hd (fun _ _ => ⟨rfl, eT, hcl, hsl⟩)
  dsimp only [Pt.U, Pt.locs, Pt.cells, Pt.slots] at X' h2 hgr l' y' z' stp hQ
  subst l' y' z'
  obtain ⟨hF, hK, hE, hQ⟩ := hQ
  obtain ⟨k0, hS, hk0⟩ := SS
  obtain ⟨X', hS', hZ', hown'⟩ := rebS hS hk0 X' h2 (eT ▸ hgr) hZ hown
  have hb : C.s.heap.size ≤ h.size := by rw [← eT]; exact X.same.2.1
  have he : T'.heap = h := hE hrc hwc
  refine (K v T' ⟨T'.vm, ⟨_, hS', Nat.le_of_eq (congrArg Array.size he)⟩, ⟨hx, hZ', rfl, r1, hown', r2⟩, ⟨_, X', N.app fun y hy => (hF y hy).elim (fun z => by rw [hwc] at z; cases z) fun z => Or.inr (Nat.le_trans hb z)⟩, he⟩ (he ▸ hQ)).via (stp)
theorem ldcStr (O : On l Z ws R own nm bytes maxL ret C T h cells slots) {i : Nat} {text : String} {cap c2 s2 : Nat} (hd : decode bytes pc = .ok (.ldc i, 2)) (w : (Cond.stringLink own i text).before a0 Z = true) (wS : ∀ a ∈ Bundle.stringAtoms, a.before a0 Z = true) (hcap : 4 * text.toList.length ≤ cap) (hb : cap ≤ 536870912) (hc2 : cells + 2 = c2) (hs2 : slots + (cap + 4) = s2) (hc : c2 ≤ R.cells) (hl : s2 ≤ R.slots) (hq : pc + 2 = q)
    (K : ∀ a T' h', On l Z ws R own nm bytes maxL ret C T' h' c2 s2 → Ext h h' → Go C ws Q k n (T'.setTop (mkF C.m q Ls (.ref a :: st)))) : Go C ws Q k n (T.setTop (mkF C.m pc Ls st)) := by
  obtain ⟨vm0, ⟨k0, hS, hk0⟩, ⟨hx, hZ, rfl, r1, hown, r2⟩, ⟨_, X, N⟩, eT⟩ := O; subst hq hc2 hs2
  obtain ⟨a, T', h', k1, X', e', E, hS', hk1, hZ', hown', stp⟩ := Jvm.RoadKit.ldcS X hx hZ hown w wS eT hS hk0 (g := mkF C.m pc Ls st) rfl hd hcap hb hc hl
  exact (K a T' h' ⟨T'.vm, ⟨k1, hS', hk1⟩, ⟨hx, hZ', rfl, r1, hown', r2⟩, ⟨_, X', N⟩, e'⟩ E).of fun _ kk => stp _ kk
theorem tltL {x y : Int64} (h : x < y) : ifCond.holds .lt (lcmpW x y) = true ∧ ifCond.holds .ge (lcmpW x y) = false ∧ ifCond.holds .gt (lcmpW y x) = true ∧ ifCond.holds .le (lcmpW y x) = false := by
  rw [if0, if0, if0, if0]
  exact ⟨(tlt ((lw_lt x y).mpr h)).1, (tlt ((lw_lt x y).mpr h)).2.1, (tlt ((lw_gt y x).mpr h)).2.2.1, (tlt ((lw_gt y x).mpr h)).2.2.2⟩
theorem fltL {x y : Int64} (h : ¬ x < y) : ifCond.holds .lt (lcmpW x y) = false ∧ ifCond.holds .ge (lcmpW x y) = true ∧ ifCond.holds .gt (lcmpW y x) = false ∧ ifCond.holds .le (lcmpW y x) = true := by
  rw [if0, if0, if0, if0]
  have h1 : ¬ lcmpW x y < 0 := fun q => h ((lw_lt x y).mp q)
  have h2 : ¬ 0 < lcmpW y x := fun q => h ((lw_gt y x).mp q)
  exact ⟨(flt h1).1, (flt h1).2.1, (flt h2).2.2.1, (flt h2).2.2.2⟩
theorem teqL {x y : Int64} (h : x = y) : ifCond.holds .eq (lcmpW x y) = true ∧ ifCond.holds .ne (lcmpW x y) = false := by
  rw [if0, if0]; exact teq ((lw_eq x y).mpr h)
theorem feqL {x y : Int64} (h : ¬ x = y) : ifCond.holds .eq (lcmpW x y) = false ∧ ifCond.holds .ne (lcmpW x y) = true := by
  rw [if0, if0]; exact feq fun q => h ((lw_eq x y).mp q)
theorem tlt0 {x : Int32} (h : x < 0) : ifCond.holds .lt x = true ∧ ifCond.holds .ge x = false := by rw [if0, if0]; exact ⟨(tlt h).1, (tlt h).2.1⟩
theorem flt0 {x : Int32} (h : ¬ x < 0) : ifCond.holds .lt x = false ∧ ifCond.holds .ge x = true := by rw [if0, if0]; exact ⟨(flt h).1, (flt h).2.1⟩
theorem tgt0 {x : Int32} (h : 0 < x) : ifCond.holds .gt x = true ∧ ifCond.holds .le x = false := by rw [if0, if0]; exact ⟨(tlt h).2.2.1, (tlt h).2.2.2⟩
theorem fgt0 {x : Int32} (h : ¬ 0 < x) : ifCond.holds .gt x = false ∧ ifCond.holds .le x = true := by rw [if0, if0]; exact ⟨(flt h).2.2.1, (flt h).2.2.2⟩
theorem teq0 {x : Int32} (h : x = 0) : ifCond.holds .eq x = true ∧ ifCond.holds .ne x = false := by rw [if0, if0]; exact teq h
theorem feq0 {x : Int32} (h : ¬ x = 0) : ifCond.holds .eq x = false ∧ ifCond.holds .ne x = true := by rw [if0, if0]; exact feq h
end Steps
end Jvm.OwnW

namespace Jvm.OwnW
open Sem ClassFile Op Lib Jvm.Free Jvm.Stand Jvm.LawKit Jvm.RoadKit
/-- an array of n places of the kind ty; place j holds f j -/
def Ar (Z : State) (h : Heap) (a : Addr) (ty : FieldType) (n : Nat) (f : Nat → Value) : Prop := ∃ cl : Cell, Arr Z h a cl ty ∧ cl.slots.size = n ∧ n < 2147483648 ∧ ∀ j, j < n → cl.slots[j]? = some (f j)
/-- the values of a list by their places -/
def lf (vs : List Value) : Nat → Value := fun j => vs.getD j .null
def updV (f : Nat → Value) (i : Nat) (v : Value) : Nat → Value := fun j => if j = i then v else f j
section Arrs
variable {Z : State} {h h' : Heap} {a b : Addr} {ty : FieldType} {n i sl : Nat} {f g : Nat → Value} {v : Value} {ws : List Addr} {vs : List Value}
theorem Ar.lt (F : Ar Z h a ty n f) : a < h.size := by obtain ⟨_, A, -⟩ := F; exact A.lt
theorem Ar.ext (F : Ar Z h a ty n f) (E : Ext h h') : Ar Z h' a ty n f := by obtain ⟨c, A, r⟩ := F; exact ⟨c, A.ext E, r⟩
theorem Ar.keep (F : Ar Z h a ty n f) (K : Keep h h' ws) (q : a ∉ ws) : Ar Z h' a ty n f := by obtain ⟨c, A, r⟩ := F; exact ⟨c, ⟨K.2.1 a c A.1 q, A.2⟩, r⟩
theorem Ar.other (F : Ar Z h b ty n f) (W : Wr h h' a sl v) (q : b ≠ a) : Ar Z h' b ty n f := by obtain ⟨c, A, r⟩ := F; exact ⟨c, A.other W q, r⟩
theorem Ar.congr (F : Ar Z h a ty n f) (q : ∀ j, j < n → f j = g j) : Ar Z h a ty n g := by obtain ⟨c, A, r1, r2, r3⟩ := F; exact ⟨c, A, r1, r2, fun j hj => by rw [r3 j hj, q j hj]⟩
theorem Ar.small (F : Ar Z h a ty n f) : n < 2147483648 := by obtain ⟨c, A, r1, r2, r3⟩ := F; exact r2
theorem toNat_of {z : Int32} {n : Nat} (hz : z.toInt = n) : z.toNatClampNeg = n := by simp only [Int32.toNatClampNeg, hz, Int.toNat_natCast]
theorem Ar.new {k : ClassId} {z : Int32} (A : Arr Z h a (newA k ty z) ty) (hz : z.toInt = n) : Ar Z h a ty n (fun _ => defaultValue ty) := by
  have q := toNat_of hz
  refine ⟨_, A, by rw [sz_new, q], ?_, fun j hj => ?_⟩
  · have := z.toInt_lt; omega
  · simp [newA, q, hj]
theorem Ar.set (F : Ar Z h a ty n f) (W : Wr h h' a i v) (hi : i < n) : Ar Z h' a ty n (updV f i v) := by
  obtain ⟨c, A, r1, r2, r3⟩ := F
  refine ⟨_, A.same W, by rw [sz_set]; exact r1, r2, fun j hj => ?_⟩
  by_cases e : j = i
  · subst e; simp [Cell.setSlot, updV, r1, hi]
  · simp only [Cell.setSlot, updV, if_neg e]; rw [Array.getElem?_setIfInBounds_ne (Ne.symm e)]; exact r3 j hj
theorem Ar.setL (F : Ar Z h a ty n (lf vs)) (W : Wr h h' a i v) (hi : i < n) (hl : i < vs.length) : Ar Z h' a ty n (lf (vs.set i v)) := (F.set W hi).congr fun j _ => by
  simp only [updV, lf, List.getD_eq_getElem?_getD]
  by_cases e : j = i
  · subst e; simp [hl]
  · rw [if_neg e, List.getElem?_set_ne (Ne.symm e)]
theorem lf_rep (n : Nat) (d : Value) (j : Nat) (hj : j < n) : d = lf (List.replicate n d) j := by simp [lf, hj]
theorem updV_lf (L : List Value) (hi : i < L.length) : updV (lf L) i v = lf (L.set i v) := by
  funext j
  simp only [updV, lf, List.getD_eq_getElem?_getD]
  by_cases e : j = i
  · subst e; simp [hi]
  · rw [if_neg e, List.getElem?_set_ne (Ne.symm e)]
theorem fill_step (N : Nat → Value) (d : Value) (i j : Nat) : updV (fun j => if j < i then N j else d) i (N i) j = if j < i + 1 then N j else d := by
  simp only [updV]
  by_cases e : j = i
  · subst e; rw [if_pos rfl, if_pos (Nat.lt_succ_self j)]
  · rw [if_neg e]
    by_cases q : j < i
    · rw [if_pos q, if_pos (by omega)]
    · rw [if_neg q, if_neg (by omega)]
theorem Ar.of_arr' {cl : Cell} (A : Arr Z h a cl ty) (hn : cl.slots.size = n) (h31 : n < 2147483648) : Ar Z h a ty n (fun j => (cl.slots[j]?).getD .null) :=
  ⟨cl, A, hn, h31, fun j hj => by simp [hn, hj]⟩
theorem staKeep1 {D n d K0 : String} (F : Sta Z h D n d v) (K : Keep h h' [a]) (E : Exa Z h a K0) : Sta Z h' D n d v := by
  obtain ⟨cf, i, k, f, st, cell, h1, h2, h3, h4, h5, h6, r⟩ := F
  refine ⟨cf, i, k, f, st, cell, h1, h2, h3, h4, K.2.1 _ _ h5 (fun q => ?_), h6, r⟩
  obtain ⟨c, _, e1, -, -, e4, -⟩ := E
  cases List.mem_singleton.mp q
  cases h5.symm.trans e1
  rw [e4] at h6; cases h6
theorem Ar.of_arr {cl : Cell} (A : Arr Z h a cl ty) (hn : cl.slots.size = n) (h31 : n < 2147483648) : ∃ f, Ar Z h a ty n f :=
  ⟨fun j => cl.slots.getD j .null, cl, A, hn, h31, fun j hj => by simp [Array.getD, hn, hj]⟩
theorem staKeep {D n d : String} (F : Sta Z h D n d v) (K : Keep h h' []) : Sta Z h' D n d v := by
  obtain ⟨cf, i, k, f, st, cell, h1, h2, h3, h4, h5, r⟩ := F
  exact ⟨cf, i, k, f, st, cell, h1, h2, h3, h4, K.2.1 _ _ h5 (fun q => nomatch q), r⟩
theorem lenEq {t : Term} {args : Array Value} {s : State} {cl : Cell} {z : Int32} (et : t.eval args s none [] s = some (.ref a)) (ha : s.arrayAt? a = some cl) (hc : (Cond.eq (.length t) (.int z)).value args s none s [] = some true) : cl.slots.size.toInt32 = z ∧ cl.slots.size < 2147483648 := by
  by_cases hb : cl.slots.size < 2 ^ 31
  · exact ⟨gotT (Cond.eq_ints (len_f et ha hb) (Term.int_eval z)) hc, hb⟩
  · obtain ⟨x, y, q1, -⟩ := cmp_v (Or.inl hc)
    simp [Term.eval, et, ha, hb] at q1
theorem inb {z : Int32} {m : Nat} (hz : z.toInt = (i : Int)) (hm : m = n) (hi : i < n) : ¬ (z < 0 ∨ m ≤ z.toNatClampNeg) := by
  rw [toNat_of hz, Int32.lt_iff_toInt_lt, hz, hm]
  have : (0 : Int32).toInt = 0 := rfl
  rw [this]; omega
theorem len32 {m : Nat} {z : Int32} (hm : m = n) (hn : n < 2147483648) (hz : z.toInt = n) : m.toInt32 = z := by
  apply Int32.toInt_inj.mp; rw [hz, hm]; exact len_toInt hn
end Arrs
section ArrSteps
variable {l : Launch} {Z : State} {a0 : Array Value} {ws : List Addr} {R : Room} {own nm : String} {bytes : ByteArray} {maxL : Nat} {ret : Option FieldType} {C : Ctx} {T : State} {h : Heap} {cells slots k n : Nat} {Q : Option Value → Heap → Prop} {pc q : Nat} {Ls L' : Array Slot} {st : List Value}
  {a : Addr} {j : Int32} {i N : Nat} {f : Nat → Value} {v : Value} {ty : FieldType}
theorem ialA (O : On l Z ws R own nm bytes maxL ret C T h cells slots) (hd : decode bytes pc = .ok (.iaload, 1)) (V : Ar Z h a .int N f) (hj : j.toInt = (i : Int)) (hi : i < N) (hv : f i = v) (hq : pc + 1 = q)
    (K : Go C ws Q k n (T.setTop (mkF C.m q Ls (v :: st)))) : Go C ws Q k n (T.setTop (mkF C.m pc Ls (.int j :: .ref a :: st))) := by
  obtain ⟨c, A, r1, r2, r3⟩ := V
  exact iaload O hd A (inb hj r1 hi) (by rw [toNat_of hj, ← hv]; exact r3 i hi) hq K
theorem lalA (O : On l Z ws R own nm bytes maxL ret C T h cells slots) (hd : decode bytes pc = .ok (.laload, 1)) (V : Ar Z h a .long N f) (hj : j.toInt = (i : Int)) (hi : i < N) (hv : f i = v) (hq : pc + 1 = q)
    (K : Go C ws Q k n (T.setTop (mkF C.m q Ls (v :: st)))) : Go C ws Q k n (T.setTop (mkF C.m pc Ls (.int j :: .ref a :: st))) := by
  obtain ⟨c, A, r1, r2, r3⟩ := V
  exact laload O hd A (inb hj r1 hi) (by rw [toNat_of hj, ← hv]; exact r3 i hi) hq K
theorem balA (O : On l Z ws R own nm bytes maxL ret C T h cells slots) (hd : decode bytes pc = .ok (.baload, 1)) (V : Ar Z h a .byte N f) (hj : j.toInt = (i : Int)) (hi : i < N) (hv : f i = v) (hq : pc + 1 = q)
    (K : Go C ws Q k n (T.setTop (mkF C.m q Ls (v :: st)))) : Go C ws Q k n (T.setTop (mkF C.m pc Ls (.int j :: .ref a :: st))) := by
  obtain ⟨c, A, r1, r2, r3⟩ := V
  exact baload O hd A (inb hj r1 hi) (by rw [toNat_of hj, ← hv]; exact r3 i hi) hq K
theorem aalA (O : On l Z ws R own nm bytes maxL ret C T h cells slots) (hd : decode bytes pc = .ok (.aaload, 1)) (V : Ar Z h a ty N f) (hty : ty.isReference = true) (hj : j.toInt = (i : Int)) (hi : i < N) (hv : f i = v) (hq : pc + 1 = q)
    (K : Go C ws Q k n (T.setTop (mkF C.m q Ls (v :: st)))) : Go C ws Q k n (T.setTop (mkF C.m pc Ls (.int j :: .ref a :: st))) := by
  obtain ⟨c, A, r1, r2, r3⟩ := V
  exact aaload O hd A hty (inb hj r1 hi) (by rw [toNat_of hj, ← hv]; exact r3 i hi) hq K
theorem lenA (O : On l Z ws R own nm bytes maxL ret C T h cells slots) (hd : decode bytes pc = .ok (.arraylength, 1)) (V : Ar Z h a ty N f) {z : Int32} (hz : z.toInt = N) (hq : pc + 1 = q)
    (K : Go C ws Q k n (T.setTop (mkF C.m q Ls (.int z :: st)))) : Go C ws Q k n (T.setTop (mkF C.m pc Ls (.ref a :: st))) := by
  obtain ⟨c, A, r1, r2, r3⟩ := V
  exact arraylength O hd A (len32 r1 r2 hz) hq K
theorem iasA (O : On l Z ws R own nm bytes maxL ret C T h cells slots) {x : Int32} (hd : decode bytes pc = .ok (.iastore, 1)) (V : Ar Z h a .int N f) (hj : j.toInt = (i : Int)) (hi : i < N) (ha : a ∈ ws ∨ C.s.heap.size ≤ a) (hq : pc + 1 = q)
    (K : ∀ T' h', On l Z ws R own nm bytes maxL ret C T' h' cells slots → Wr h h' a i (.int x) → Go C ws Q k n (T'.setTop (mkF C.m q Ls st))) : Go C ws Q k n (T.setTop (mkF C.m pc Ls (.int x :: .int j :: .ref a :: st))) := by
  obtain ⟨c, A, r1, r2, r3⟩ := V
  exact iastore O hd A (inb hj r1 hi) ha hq fun T' h' O' W => K T' h' O' (toNat_of hj ▸ W)
theorem lasA (O : On l Z ws R own nm bytes maxL ret C T h cells slots) {x : Int64} (hd : decode bytes pc = .ok (.lastore, 1)) (V : Ar Z h a .long N f) (hj : j.toInt = (i : Int)) (hi : i < N) (ha : a ∈ ws ∨ C.s.heap.size ≤ a) (hq : pc + 1 = q)
    (K : ∀ T' h', On l Z ws R own nm bytes maxL ret C T' h' cells slots → Wr h h' a i (.long x) → Go C ws Q k n (T'.setTop (mkF C.m q Ls st))) : Go C ws Q k n (T.setTop (mkF C.m pc Ls (.long x :: .int j :: .ref a :: st))) := by
  obtain ⟨c, A, r1, r2, r3⟩ := V
  exact lastore O hd A (inb hj r1 hi) ha hq fun T' h' O' W => K T' h' O' (toNat_of hj ▸ W)
theorem basA (O : On l Z ws R own nm bytes maxL ret C T h cells slots) {x y : Int32} (hd : decode bytes pc = .ok (.bastore, 1)) (V : Ar Z h a .byte N f) (hj : j.toInt = (i : Int)) (hi : i < N) (ha : a ∈ ws ∨ C.s.heap.size ≤ a) (hy : x.toInt8.toInt32 = y) (hq : pc + 1 = q)
    (K : ∀ T' h', On l Z ws R own nm bytes maxL ret C T' h' cells slots → Wr h h' a i (.int y) → Go C ws Q k n (T'.setTop (mkF C.m q Ls st))) : Go C ws Q k n (T.setTop (mkF C.m pc Ls (.int x :: .int j :: .ref a :: st))) := by
  obtain ⟨c, A, r1, r2, r3⟩ := V
  subst hy
  exact bastore O hd A (inb hj r1 hi) ha hq fun T' h' O' W => K T' h' O' (toNat_of hj ▸ W)
theorem newA' (O : On l Z ws R own nm bytes maxL ret C T h cells slots) {aty : ArrayType} {c2 s2 : Nat} (hd : decode bytes pc = .ok (.newarray aty, 2)) (ht : newarray.typeOf aty = ty) (w : (Cond.arrayClass ty).before a0 Z = true) {z : Int32} (hz : z.toInt = N) {cap : Nat} (hcap : N ≤ cap) (hb : cap * 8 ≤ 536870912) (hc2 : cells + 1 = c2) (hs2 : slots + cap = s2) (hc : c2 ≤ R.cells) (hl : s2 ≤ R.slots) (hq : pc + 2 = q)
    (K : ∀ a T' h', a = h.size → C.s.heap.size ≤ a → On l Z ws R own nm bytes maxL ret C T' h' c2 s2 → Ext h h' → Ar Z h' a ty N (fun _ => defaultValue ty) → Go C ws Q k n (T'.setTop (mkF C.m q Ls (.ref a :: st)))) : Go C ws Q k n (T.setTop (mkF C.m pc Ls (.int z :: st))) := by
  subst ht
  refine newP O hd w ?_ (by rw [toNat_of hz]; exact hcap) hb hc2 hs2 hc hl hq fun a T' h' cA e1 e2 O' E A => K a T' h' e1 e2 O' E (Ar.new A hz)
  rw [Int32.lt_iff_toInt_lt, hz]
  have : (0 : Int32).toInt = 0 := rfl
  rw [this]; omega
end ArrSteps
end Jvm.OwnW

namespace Jvm.OwnW
open Jvm.RoadKit
theorem add32 {x y : Int32} (h1 : -2147483648 ≤ x.toInt + y.toInt) (h2 : x.toInt + y.toInt < 2147483648) : (x + y).toInt = x.toInt + y.toInt := by
  have := c_iadd x y; have := rng32 (x + y); omega
theorem sub32 {x y : Int32} (h1 : -2147483648 ≤ x.toInt - y.toInt) (h2 : x.toInt - y.toInt < 2147483648) : (x - y).toInt = x.toInt - y.toInt := by
  have := c_isub x y; have := rng32 (x - y); omega
theorem mul32 {x y : Int32} (h1 : -2147483648 ≤ x.toInt * y.toInt) (h2 : x.toInt * y.toInt < 2147483648) : (x * y).toInt = x.toInt * y.toInt := by
  have := c_imul x y; have := rng32 (x * y); omega
theorem add64 {x y : Int64} (h1 : -9223372036854775808 ≤ x.toInt + y.toInt) (h2 : x.toInt + y.toInt < 9223372036854775808) : (x + y).toInt = x.toInt + y.toInt := by
  have := c_ladd x y; have := rng64 (x + y); omega
theorem sub64 {x y : Int64} (h1 : -9223372036854775808 ≤ x.toInt - y.toInt) (h2 : x.toInt - y.toInt < 9223372036854775808) : (x - y).toInt = x.toInt - y.toInt := by
  have := c_lsub x y; have := rng64 (x - y); omega
theorem mul64 {x y : Int64} (h1 : -9223372036854775808 ≤ x.toInt * y.toInt) (h2 : x.toInt * y.toInt < 9223372036854775808) : (x * y).toInt = x.toInt * y.toInt := by
  have := c_lmul x y; have := rng64 (x * y); omega
theorem ne0_32 {z : Int32} (h : 0 < z.toInt) : z ≠ 0 := fun e => by subst e; exact absurd h (by decide)
theorem ne0_64 {z : Int64} (h : 0 < z.toInt) : z ≠ 0 := fun e => by subst e; exact absurd h (by decide)
theorem lt32 {x y : Int32} (h : x.toInt < y.toInt) : x < y := Int32.lt_iff_toInt_lt.mpr h
theorem nlt32 {x y : Int32} (h : y.toInt ≤ x.toInt) : ¬ x < y := fun q => by rw [Int32.lt_iff_toInt_lt] at q; omega
theorem lt64 {x y : Int64} (h : x.toInt < y.toInt) : x < y := Int64.lt_iff_toInt_lt.mpr h
theorem nlt64 {x y : Int64} (h : y.toInt ≤ x.toInt) : ¬ x < y := fun q => by rw [Int64.lt_iff_toInt_lt] at q; omega
theorem eq32 {x y : Int32} (h : x.toInt = y.toInt) : x = y := Int32.toInt_inj.mp h
theorem ne32 {x y : Int32} (h : x.toInt ≠ y.toInt) : ¬ x = y := fun e => h (congrArg _ e)
theorem ne64 {x y : Int64} (h : x.toInt ≠ y.toInt) : ¬ x = y := fun e => h (congrArg _ e)
theorem inc32 {z : Int32} {i : Nat} (hi : z.toInt = (i : Int)) (hb : i < 2147483647) : (z + 1).toInt = ((i + 1 : Nat) : Int) := by
  have h1 : (1 : Int32).toInt = 1 := rfl
  rw [add32 (by omega) (by omega)]; omega
theorem dec32 {z : Int32} {i : Nat} (hi : z.toInt = (i : Int)) (hb : 1 ≤ i) : (z - 1).toInt = ((i - 1 : Nat) : Int) := by
  have h1 : (1 : Int32).toInt = 1 := rfl
  have := rng32 z
  rw [sub32 (by omega) (by omega)]; omega
theorem rem64 {x y : Int64} {d : Int} (hy : y.toInt = d) (hx : 0 ≤ x.toInt) : (x % y).toInt = x.toInt % d := by rw [Int64.toInt_mod, hy]; exact (tr _ _).1 hx
theorem rem32 {x y : Int32} {d : Int} (hy : y.toInt = d) (hx : 0 ≤ x.toInt) : (x % y).toInt = x.toInt % d := by rw [Int32.toInt_mod, hy]; exact (tr _ _).1 hx
theorem eq64 {x y : Int64} (h : x.toInt = y.toInt) : x = y := Int64.toInt_inj.mp h
/-- (s & 0x7fffffff) % z for a z above 0 -/
theorem rem_in (s z : Int32) (hz : 0 < z.toInt) : ∃ i : Nat, ((s &&& 2147483647) % z).toInt = (i : Int) ∧ (i : Int) < z.toInt := by
  have h1 := c_mask s 2147483647 31 (by decide) (by decide)
  have h2 := (c_iremV (s &&& 2147483647) z).1 (by omega) hz
  exact ⟨((s &&& 2147483647) % z).toInt.toNat, by omega, by omega⟩
theorem b8 (x : Int32) : x.toInt8.toInt32.toInt8.toInt32 = x.toInt8.toInt32 := by
  have h := c_i2b x; have h2 := c_i2b x.toInt8.toInt32
  apply Int32.toInt_inj.mp; omega
theorem lf_int (L : List Int32) (j : Nat) (hj : j < L.length) : lf (L.map Value.int) j = .int (L.getD j 0) := by
  simp [lf, List.getD_eq_getElem?_getD, hj]
theorem lf_long (L : List Int64) (j : Nat) (hj : j < L.length) : lf (L.map Value.long) j = .long (L.getD j 0) := by
  simp [lf, List.getD_eq_getElem?_getD, hj]
end Jvm.OwnW

namespace Jvm.OwnW
open Sem ClassFile Op Lib Jvm.Free Jvm.Stand Jvm.LawKit Jvm.RoadKit
/-- the Class object of the class K0 has been made: it is a -/
def MirO (Z : State) (K0 : String) (a : Addr) : Prop := ∃ c k, Z.vm.findClass K0 = some c ∧ Z.vm.classes[c]? = some k ∧ k.mirror = some a
theorem catR {v : Value} (h : v.isRef = true) : v.category = 1 := by cases v <;> first | rfl | cases h
theorem isRef_ite {c : Prop} [Decidable c] {a b : Value} (ha : a.isRef = true) (hb : b.isRef = true) : (if c then a else b).isRef = true := by split <;> assumption
theorem ite_val {α : Type} {c : Prop} [Decidable c] {a b v : α} (h1 : c → a = v) (h2 : ¬ c → b = v) : (if c then a else b) = v := by
  by_cases h : c
  · rw [if_pos h]; exact h1 h
  · rw [if_neg h]; exact h2 h
section StepsR
variable {l : Launch} {Z : State} {a0 : Array Value} {ws : List Addr} {R : Room} {own nm : String} {bytes : ByteArray} {maxL : Nat} {ret : Option FieldType} {C : Ctx} {T : State} {h : Heap} {cells slots k n : Nat} {Q : Option Value → Heap → Prop} {pc q : Nat} {Ls L' : Array Slot} {st : List Value}
theorem lswIn (O : On l Z ws R own nm bytes maxL ret C T h cells slots) {df v : Int} {prs : Array (Int × Int)} {ln : Nat} {x : Int32} {o : Int} (hd : decode bytes pc = .ok (.lookupswitch df prs, ln)) (hs : (prs.toList.zip (prs.toList.drop 1)).all (fun (a, next) => a.1 < next.1) = true) (hf : prs.find? (·.1 == x.toInt) = some (v, o)) (h0 : 0 ≤ (pc : Int) + o) (hq : ((pc : Int) + o).toNat = q)
    (K : Go C ws Q k n (T.setTop (mkF C.m q Ls st))) : Go C ws Q k n (T.setTop (mkF C.m pc Ls (.int x :: st))) := by
  obtain ⟨vm0, SS, ⟨hx, -, rfl, -⟩, ⟨_, X, -⟩, -⟩ := O; subst hq
  refine K.of fun _ kk => ?_
  jvm_step X.here [X.here.top, hx, hd, lookupswitch.wp_whole, hf, h0]
  refine ⟨by simpa using hs, kk⟩
theorem lswOut (O : On l Z ws R own nm bytes maxL ret C T h cells slots) {o : Int} {prs : Array (Int × Int)} {ln : Nat} {x : Int32} (hd : decode bytes pc = .ok (.lookupswitch o prs, ln)) (hs : (prs.toList.zip (prs.toList.drop 1)).all (fun (a, next) => a.1 < next.1) = true) (hf : prs.find? (·.1 == x.toInt) = none) (h0 : 0 ≤ (pc : Int) + o) (hq : ((pc : Int) + o).toNat = q)
    (K : Go C ws Q k n (T.setTop (mkF C.m q Ls st))) : Go C ws Q k n (T.setTop (mkF C.m pc Ls (.int x :: st))) := by
  obtain ⟨vm0, SS, ⟨hx, -, rfl, -⟩, ⟨_, X, -⟩, -⟩ := O; subst hq
  refine K.of fun _ kk => ?_
  jvm_step X.here [X.here.top, hx, hd, lookupswitch.wp_whole, hf, h0]
  refine ⟨by simpa using hs, kk⟩
theorem castY (O : On l Z ws R own nm bytes maxL ret C T h cells slots) {i : Nat} {K0 : String} {a : Addr} (hd : decode bytes pc = .ok (.checkcast i, 3)) (w : (Cond.classLink own i K0).before a0 Z = true) (F : Ins Z h a K0 true) (hq : pc + 3 = q)
    (K : ∀ T', On l Z ws R own nm bytes maxL ret C T' h cells slots → Go C ws Q k n (T'.setTop (mkF C.m q Ls (.ref a :: st)))) : Go C ws Q k n (T.setTop (mkF C.m pc Ls (.ref a :: st))) := by
  obtain ⟨vm0, SS, ⟨hx, hZ, rfl, r1, hown, r2⟩, ⟨_, X, N⟩, eT⟩ := O; subst hq
  obtain ⟨T', X', e', stp⟩ := Jvm.RoadKit.castY X hx hZ hown w eT F (g := mkF C.m pc Ls (.ref a :: st)) rfl rfl hd
  exact (K T' ⟨vm0, SS, ⟨hx, hZ, rfl, r1, hown, r2⟩, ⟨_, X', N⟩, e'⟩).of fun _ kk => stp _ kk
end StepsR
end Jvm.OwnW
namespace Jvm.OwnW
open Sem ClassFile Op Lib Jvm.Free Jvm.Stand Jvm.LawKit Jvm.RoadKit
/-- an array whose own class is known too -/
def ArC (Z : State) (h : Heap) (a : Addr) (ty : FieldType) (n : Nat) (f : Nat → Value) (cA : ClassId) : Prop := ∃ cl : Cell, Arr Z h a cl ty ∧ cl.cls = cA ∧ cl.slots.size = n ∧ n < 2147483648 ∧ ∀ j, j < n → cl.slots[j]? = some (f j)
section ArrsC
variable {Z : State} {h h' : Heap} {a b : Addr} {ty : FieldType} {n i sl : Nat} {f g : Nat → Value} {v : Value} {ws : List Addr} {cA : ClassId}
theorem ArC.ar (F : ArC Z h a ty n f cA) : Ar Z h a ty n f := by obtain ⟨c, A, -, r⟩ := F; exact ⟨c, A, r⟩
theorem ArC.lt (F : ArC Z h a ty n f cA) : a < h.size := F.ar.lt
theorem ArC.ext (F : ArC Z h a ty n f cA) (E : Ext h h') : ArC Z h' a ty n f cA := by obtain ⟨c, A, r⟩ := F; exact ⟨c, A.ext E, r⟩
theorem ArC.keep (F : ArC Z h a ty n f cA) (K : Keep h h' ws) (q : a ∉ ws) : ArC Z h' a ty n f cA := by obtain ⟨c, A, r⟩ := F; exact ⟨c, ⟨K.2.1 a c A.1 q, A.2⟩, r⟩
theorem ArC.other (F : ArC Z h b ty n f cA) (W : Wr h h' a sl v) (q : b ≠ a) : ArC Z h' b ty n f cA := by obtain ⟨c, A, r⟩ := F; exact ⟨c, A.other W q, r⟩
theorem ArC.new {z : Int32} (A : Arr Z h a (newA cA ty z) ty) (hz : z.toInt = n) : ArC Z h a ty n (fun _ => defaultValue ty) cA := by
  have q := toNat_of hz
  refine ⟨_, A, rfl, by rw [sz_new, q], ?_, fun j hj => ?_⟩
  · have := z.toInt_lt; omega
  · simp [newA, q, hj]
theorem ArC.set (F : ArC Z h a ty n f cA) (W : Wr h h' a i v) (hi : i < n) : ArC Z h' a ty n (updV f i v) cA := by
  obtain ⟨c, A, rc, r1, r2, r3⟩ := F
  refine ⟨_, A.same W, rc, by rw [sz_set]; exact r1, r2, fun j hj => ?_⟩
  by_cases e : j = i
  · subst e; simp [Cell.setSlot, updV, r1, hi]
  · simp only [Cell.setSlot, updV, if_neg e]; rw [Array.getElem?_setIfInBounds_ne (Ne.symm e)]; exact r3 j hj
end ArrsC
section StepsC
variable {l : Launch} {Z : State} {a0 : Array Value} {ws : List Addr} {R : Room} {own nm : String} {bytes : ByteArray} {maxL : Nat} {ret : Option FieldType} {C : Ctx} {T : State} {h : Heap} {cells slots k n : Nat} {Q : Option Value → Heap → Prop} {pc q : Nat} {Ls L' : Array Slot} {st : List Value}
  {a : Addr} {j : Int32} {i N : Nat} {f : Nat → Value} {v : Value} {ty : FieldType}
theorem nneg {z : Int32} (hz : z.toInt = (N : Int)) : ¬ z < 0 := by
  rw [Int32.lt_iff_toInt_lt, hz]
  have : (0 : Int32).toInt = 0 := rfl
  rw [this]; omega
theorem newAE (O : On l Z ws R own nm bytes maxL ret C T h cells slots) {aty : ArrayType} {c2 s2 : Nat} {ad : String} (hd : decode bytes pc = .ok (.newarray aty, 2)) (ht : newarray.typeOf aty = ty) (had : "[" ++ ty.toString = ad) (w : (Cond.arrayClass ty).before a0 Z = true) {z : Int32} (hz : z.toInt = N) {cap : Nat} (hcap : N ≤ cap) (hb : cap * 8 ≤ 536870912) (hc2 : cells + 1 = c2) (hs2 : slots + cap = s2) (hc : c2 ≤ R.cells) (hl : s2 ≤ R.slots) (hq : pc + 2 = q)
    (K : ∀ a T' h', a = h.size → C.s.heap.size ≤ a → On l Z ws R own nm bytes maxL ret C T' h' c2 s2 → Ext h h' → Ar Z h' a ty N (fun _ => defaultValue ty) → Exa Z h' a ad → Go C ws Q k n (T'.setTop (mkF C.m q Ls (.ref a :: st)))) : Go C ws Q k n (T.setTop (mkF C.m pc Ls (.int z :: st))) := by
  subst ht
  obtain ⟨vm0, SS, ⟨hx, hZ, rfl, r1, hown, r2⟩, ⟨_, X, N'⟩, eT⟩ := O; subst hq hc2 hs2
  obtain ⟨T', h', cA, X', e', E, A, Ex, stp⟩ := Jvm.RoadKit.newPE X hx hZ w eT (g := mkF C.m pc Ls (.int z :: st)) rfl hd rfl (nneg hz) (by rw [toNat_of hz]; exact hcap) hb hc hl had
  exact (K _ T' h' rfl (by rw [← eT]; exact X.same.2.1) ⟨vm0, (grow SS E.1), ⟨hx, hZ, rfl, r1, hown, r2⟩, ⟨_, X', N'⟩, e'⟩ E (Ar.new A hz) Ex).of fun _ kk => stp _ kk
theorem newRO (O : On l Z ws R own nm bytes maxL ret C T h cells slots) {K0 : String} {ix c2 s2 : Nat} (hd : decode bytes pc = .ok (.anewarray ix, 3)) (w1 : (Cond.classLink own ix K0).before a0 Z = true) (w2 : (Cond.arrayOver (.object K0)).before a0 Z = true) {z : Int32} (hz : z.toInt = N) {cap : Nat} (hcap : N ≤ cap) (hb : cap * 8 ≤ 536870912) (hc2 : cells + 1 = c2) (hs2 : slots + cap = s2) (hc : c2 ≤ R.cells) (hl : s2 ≤ R.slots) (hq : pc + 3 = q)
    (K : ∀ a T' h' cA, a = h.size → C.s.heap.size ≤ a → On l Z ws R own nm bytes maxL ret C T' h' c2 s2 → Ext h h' → ArC Z h' a (.object K0) N (fun _ => .null) cA → Ovr Z cA K0 → Go C ws Q k n (T'.setTop (mkF C.m q Ls (.ref a :: st)))) : Go C ws Q k n (T.setTop (mkF C.m pc Ls (.int z :: st))) := by
  obtain ⟨vm0, SS, ⟨hx, hZ, rfl, r1, hown, r2⟩, ⟨_, X, N'⟩, eT⟩ := O; subst hq hc2 hs2
  obtain ⟨T', h', cA, X', e', E, A, Ov, stp⟩ := Jvm.RoadKit.newR X hx hZ hown w1 w2 eT (g := mkF C.m pc Ls (.int z :: st)) rfl hd rfl (nneg hz) (by rw [toNat_of hz]; exact hcap) hb hc hl
  exact (K _ T' h' cA rfl (by rw [← eT]; exact X.same.2.1) ⟨vm0, (grow SS E.1), ⟨hx, hZ, rfl, r1, hown, r2⟩, ⟨_, X', N'⟩, e'⟩ E (ArC.new A hz) Ov).of fun _ kk => stp _ kk
theorem newRR (O : On l Z ws R own nm bytes maxL ret C T h cells slots) {K0 ad : String} {ix c2 s2 : Nat} (hd : decode bytes pc = .ok (.anewarray ix, 3)) (hC : (FieldType.array ty).toString = K0) (had : "[" ++ K0 = ad) (w1 : (Cond.classLink own ix K0).before a0 Z = true) (w2 : (Cond.arrayOver (.array ty)).before a0 Z = true) {z : Int32} (hz : z.toInt = N) {cap : Nat} (hcap : N ≤ cap) (hb : cap * 8 ≤ 536870912) (hc2 : cells + 1 = c2) (hs2 : slots + cap = s2) (hc : c2 ≤ R.cells) (hl : s2 ≤ R.slots) (hq : pc + 3 = q)
    (K : ∀ a T' h' cA, a = h.size → C.s.heap.size ≤ a → On l Z ws R own nm bytes maxL ret C T' h' c2 s2 → Ext h h' → ArC Z h' a (.array ty) N (fun _ => .null) cA → OvrA Z cA ty K0 → Go C ws Q k n (T'.setTop (mkF C.m q Ls (.ref a :: st)))) : Go C ws Q k n (T.setTop (mkF C.m pc Ls (.int z :: st))) := by
  obtain ⟨vm0, SS, ⟨hx, hZ, rfl, r1, hown, r2⟩, ⟨_, X, N'⟩, eT⟩ := O; subst hq hc2 hs2
  obtain ⟨T', h', cA, X', e', E, A, -, Ov, stp⟩ := Jvm.RoadKit.newRA X hx hZ hown hC w1 w2 eT (g := mkF C.m pc Ls (.int z :: st)) rfl hd rfl (nneg hz) (by rw [toNat_of hz]; exact hcap) hb hc hl had
  exact (K _ T' h' cA rfl (by rw [← eT]; exact X.same.2.1) ⟨vm0, (grow SS E.1), ⟨hx, hZ, rfl, r1, hown, r2⟩, ⟨_, X', N'⟩, e'⟩ E (ArC.new A hz) Ov).of fun _ kk => stp _ kk
theorem aasRR (O : On l Z ws R own nm bytes maxL ret C T h cells slots) {K0 : String} {y : Addr} {cA : ClassId} (hd : decode bytes pc = .ok (.aastore, 1)) (V : ArC Z h a (.array ty) N f cA) (Ov : OvrA Z cA ty K0) (I : Ins Z h y K0 true) (hj : j.toInt = (i : Int)) (hi : i < N) (ha : a ∈ ws ∨ C.s.heap.size ≤ a) (hq : pc + 1 = q)
    (K : ∀ T' h', On l Z ws R own nm bytes maxL ret C T' h' cells slots → Wr h h' a i (.ref y) → Go C ws Q k n (T'.setTop (mkF C.m q Ls st))) : Go C ws Q k n (T.setTop (mkF C.m pc Ls (.ref y :: .int j :: .ref a :: st))) := by
  obtain ⟨vm0, SS, ⟨hx, hZ, rfl, r1, hown, r2⟩, ⟨_, X, N'⟩, eT⟩ := O; subst hq
  obtain ⟨cl, A, rc, s1, s2, s3⟩ := V
  obtain ⟨T', h', X', e', W, stp⟩ := Jvm.RoadKit.stR X hx hZ eT A (inb hj s1 hi) rfl (Sto.ofVA A rc Ov I) (g := mkF C.m pc Ls (.ref y :: .int j :: .ref a :: st)) rfl rfl hd
  exact (K T' h' ⟨vm0, (grow SS (wr_le W)), ⟨hx, hZ, rfl, r1, hown, r2⟩, ⟨_, X', N'.snoc ha⟩, e'⟩ (toNat_of hj ▸ W)).of fun _ kk => stp _ kk
end StepsC
end Jvm.OwnW

namespace Jvm.Pilot.@@N@@
open Jvm Jvm.ClassFile Sem Op Lib Jvm.Free Jvm.Stand Jvm.LawKit Jvm.RoadKit Bundle Jvm.OwnW Jvm.Pilot.@@N@@.Jvm.D

theorem own_str {Z : State} {a0 : Array Value} (hw : ∀ d ∈ tables_1, d.before a0 Z = true) : ∀ a ∈ Bundle.stringAtoms, a.before a0 Z = true := by
  intro a ha
  simp only [Bundle.stringAtoms, List.mem_cons, List.not_mem_nil, or_false] at ha
  rcases ha with rfl | rfl | rfl | rfl | rfl | rfl | rfl
  · exact hw _ (List.mem_of_getElem? (i := 15) rfl)
  · exact hw _ (List.mem_of_getElem? (i := 16) rfl)
  · exact hw _ (List.mem_of_getElem? (i := 17) rfl)
  · exact hw _ (List.mem_of_getElem? (i := 18) rfl)
  · exact hw _ (List.mem_of_getElem? (i := 19) rfl)
  · exact hw _ (List.mem_of_getElem? (i := 20) rfl)
  · exact hw _ (List.mem_of_getElem? (i := 21) rfl)
theorem dk_0 : decode prog_9_method_2_code 0 = .ok (.lload_n 0, 1) := by decide +kernel
theorem dk_1 : decode prog_9_method_2_code 1 = .ok (.lconst 1, 1) := by decide +kernel
theorem dk_2 : decode prog_9_method_2_code 2 = .ok (.lcmp, 1) := by decide +kernel
theorem dk_3 : decode prog_9_method_2_code 3 = .ok (.ifCond .lt 9, 3) := by decide +kernel
theorem dk_6 : decode prog_9_method_2_code 6 = .ok (.lload_n 0, 1) := by decide +kernel
theorem dk_7 : decode prog_9_method_2_code 7 = .ok (.lload_n 2, 1) := by decide +kernel
theorem dk_8 : decode prog_9_method_2_code 8 = .ok (.lcmp, 1) := by decide +kernel
theorem dk_9 : decode prog_9_method_2_code 9 = .ok (.ifCond .le 20, 3) := by decide +kernel
theorem dk_29 : decode prog_9_method_2_code 29 = .ok (.return_, 1) := by decide +kernel
theorem ef_k (p0 : Int64) (p2 : Int64) (a4 : Addr) (m : MethodId) : entryFrame m #[(.long p0), (.long p2), (.ref a4)] 5 = mkF m 0 #[.val (.long p0), .second, .val (.long p2), .second, .val (.ref a4)] [] := by first | (simp [entryFrame, mkF, argsToLocals, Value.category, maxLocals]; done) | rfl
theorem pn_k : plainFor (⟨"com/example/occupancy/occupancy/cell/internal/Words", "checkCellCount", "(JJLjava/lang/String;)V"⟩ : MethodName) = true := by first | exact plainFor_of_name (by first | (simp [plainName, overriddenIn]; done) | decide +kernel) | decide +kernel
set_option maxRecDepth 65536 in
set_option maxHeartbeats 40000000 in
theorem rm_k (l : Launch) (Z : State) (a0 : Array Value) (hw : ∀ d ∈ tables_1, d.before a0 Z = true) (p0 : Int64) (p2 : Int64) (a4 : Addr) (h0 : Heap) (hlo : ¬ p0 < 1) (hhi : ¬ p2 < p0) :
    Met l Z (⟨"com/example/occupancy/occupancy/cell/internal/Words", "checkCellCount", "(JJLjava/lang/String;)V"⟩ : MethodName) prog_9_method_2_code 5 none [] ({ frames := 0, cells := 0, slots := 0, locals := 0 } : Room) #[(.long p0), (.long p2), (.ref a4)] [] h0 (fun v h => v = none) := by
  refine Met.mk pn_k (ef_k p0 p2 a4) ?_
  intro C T hs0 O
  show Go C [] (fun v h => v = none) 0 0 (T.setTop (mkF C.m 0 #[.val (.long p0), .second, .val (.long p2), .second, .val (.ref a4)] []))
  refine Jvm.OwnW.lloadN O dk_0 rfl (q := 1) rfl ?_
  refine Jvm.OwnW.lconst O dk_1 (r := (1 : Int64)) rfl (q := 2) rfl ?_
  refine Jvm.OwnW.lcmp O dk_2 rfl (q := 3) rfl ?_
  refine Jvm.OwnW.ifNo O dk_3 (fltL (show ¬ (p0 < (1 : Int64)) from hlo)).1 (q := 6) rfl ?_
  refine Jvm.OwnW.lloadN O dk_6 rfl (q := 7) rfl ?_
  refine Jvm.OwnW.lloadN O dk_7 rfl (q := 8) rfl ?_
  refine Jvm.OwnW.lcmp O dk_8 rfl (q := 9) rfl ?_
  refine Jvm.OwnW.ifYes O dk_9 (fltL (show ¬ (p2 < p0) from hhi)).2.2.2 (by decide) (q := 29) rfl ?_
  exact Jvm.OwnW.ret0 O dk_29 (by decide) (by decide) rfl
theorem pd_0 : parseMethodDescriptor "(JJLjava/lang/String;)V" = some ⟨[.long, .long, (.object "java/lang/String")], none⟩ := by decide +kernel
theorem dc_0 : decode prog_2_method_21_code 0 = .ok (.lload_n 0, 1) := by decide +kernel
theorem dc_1 : decode prog_2_method_21_code 1 = .ok (.ldc2_w 106, 3) := by decide +kernel
theorem dc_4 : decode prog_2_method_21_code 4 = .ok (.ldc 108, 2) := by decide +kernel
theorem dc_6 : decode prog_2_method_21_code 6 = .ok (.invokestatic 110, 3) := by decide +kernel
theorem dc_9 : decode prog_2_method_21_code 9 = .ok (.lload_n 0, 1) := by decide +kernel
theorem dc_10 : decode prog_2_method_21_code 10 = .ok (.lreturn, 1) := by decide +kernel
theorem ef_c (p0 : Int64) (m : MethodId) : entryFrame m #[(.long p0)] 2 = mkF m 0 #[.val (.long p0), .second] [] := by first | (simp [entryFrame, mkF, argsToLocals, Value.category, maxLocals]; done) | rfl
theorem pn_c : plainFor (⟨"com/example/occupancy/occupancy/cell/internal/BitCells", "checkedCellCount", "(J)J"⟩ : MethodName) = true := by first | exact plainFor_of_name (by first | (simp [plainName, overriddenIn]; done) | decide +kernel) | decide +kernel
set_option maxRecDepth 65536 in
set_option maxHeartbeats 40000000 in
theorem rm_c (l : Launch) (Z : State) (a0 : Array Value) (hw : ∀ d ∈ tables_1, d.before a0 Z = true) (p0 : Int64) (h0 : Heap) (hlo : ¬ p0 < 1) (hhi : ¬ 137438952896 < p0) :
    Met l Z (⟨"com/example/occupancy/occupancy/cell/internal/BitCells", "checkedCellCount", "(J)J"⟩ : MethodName) prog_2_method_21_code 2 (some .long) [] ({ frames := 1, cells := 2, slots := 40, locals := 16 } : Room) #[(.long p0)] [] h0 (fun v h => v = some (.long p0)) := by
  refine Met.mk pn_c (ef_c p0) ?_
  intro C T hs0 O
  show Go C [] (fun v h => v = some (.long p0)) 2 40 (T.setTop (mkF C.m 0 #[.val (.long p0), .second] []))
  refine Jvm.OwnW.lloadN O dc_0 rfl (q := 1) rfl ?_
  refine Jvm.OwnW.ldcL O dc_1 (hw _ (List.mem_of_getElem? (i := 13) rfl)) (q := 4) rfl ?_
  refine Jvm.OwnW.ldcStr O dc_4 (hw _ (List.mem_of_getElem? (i := 14) rfl)) (own_str hw) (cap := 36) (by decide +kernel) (by decide) (c2 := 2) (s2 := 40) rfl rfl (by decide) (by decide) (q := 6) rfl ?_
  intro nb1 T1 h1 O1 X1
  refine Jvm.OwnW.callS0 O1 (y := (⟨"com/example/occupancy/occupancy/cell/internal/Words", "checkCellCount", "(JJLjava/lang/String;)V"⟩ : MethodName)) (argsL := [(.long p0), (.long (137438952896 : Int64)), (.ref nb1)]) (rest := []) dc_6 (hw _ (List.mem_of_getElem? (i := 22) rfl)) (hw _ (List.mem_of_getElem? (i := 23) rfl)) (hw _ (List.mem_of_getElem? (i := 24) rfl)) (hw _ (List.mem_of_getElem? (i := 25) rfl)) (by decide) (rm_k l Z a0 hw p0 (137438952896 : Int64) nb1 h1 hlo hhi) rfl pd_0 rfl (hst := rfl) (W := 0) (Nat.le_of_eq rfl) (by decide) (by decide) (c2 := 2) (s2 := 40) rfl rfl (by decide) (by decide) rfl rfl (q := 9) rfl ?_
  intro v2 T2 O2 q2
  obtain rfl := q2
  show Go C _ _ _ _ (T2.setTop (mkF C.m 9 #[.val (.long p0), .second] []))
  refine Jvm.OwnW.lloadN O2 dc_9 rfl (q := 10) rfl ?_
  exact Jvm.OwnW.retL O2 dc_10 rfl (by decide) (by decide) rfl
theorem dw_0 : decode prog_9_method_7_code 0 = .ok (.lload_n 0, 1) := by decide +kernel
theorem dw_1 : decode prog_9_method_7_code 1 = .ok (.ldc2_w 113, 3) := by decide +kernel
theorem dw_4 : decode prog_9_method_7_code 4 = .ok (.ladd, 1) := by decide +kernel
theorem dw_5 : decode prog_9_method_7_code 5 = .ok (.bipush 6, 2) := by decide +kernel
theorem dw_7 : decode prog_9_method_7_code 7 = .ok (.lushr, 1) := by decide +kernel
theorem dw_8 : decode prog_9_method_7_code 8 = .ok (.l2i, 1) := by decide +kernel
theorem dw_9 : decode prog_9_method_7_code 9 = .ok (.ireturn, 1) := by decide +kernel
def fn_w (p0 : Int64) : Int32 := (((p0 + (63 : Int64)).toUInt64 >>> ((6 : Int32) &&& 0x3f).toInt64.toUInt64).toInt64).toInt32
theorem ef_w (p0 : Int64) (m : MethodId) : entryFrame m #[(.long p0)] 2 = mkF m 0 #[.val (.long p0), .second] [] := by first | (simp [entryFrame, mkF, argsToLocals, Value.category, maxLocals]; done) | rfl
theorem pn_w : plainFor (⟨"com/example/occupancy/occupancy/cell/internal/Words", "wordCountOf", "(J)I"⟩ : MethodName) = true := by first | exact plainFor_of_name (by first | (simp [plainName, overriddenIn]; done) | decide +kernel) | decide +kernel
set_option maxRecDepth 65536 in
set_option maxHeartbeats 40000000 in
theorem rm_w (l : Launch) (Z : State) (a0 : Array Value) (hw : ∀ d ∈ tables_1, d.before a0 Z = true) (p0 : Int64) (h0 : Heap)  :
    Met l Z (⟨"com/example/occupancy/occupancy/cell/internal/Words", "wordCountOf", "(J)I"⟩ : MethodName) prog_9_method_7_code 2 (some .int) [] ({ frames := 0, cells := 0, slots := 0, locals := 0 } : Room) #[(.long p0)] [] h0 (fun v h => v = some (Value.int (fn_w p0))) := by
  refine Met.mk pn_w (ef_w p0) ?_
  intro C T hs0 O
  show Go C [] (fun v h => v = some (Value.int (fn_w p0))) 0 0 (T.setTop (mkF C.m 0 #[.val (.long p0), .second] []))
  refine Jvm.OwnW.lloadN O dw_0 rfl (q := 1) rfl ?_
  refine Jvm.OwnW.ldcL O dw_1 (hw _ (List.mem_of_getElem? (i := 32) rfl)) (q := 4) rfl ?_
  refine Jvm.OwnW.ladd O dw_4 rfl (q := 5) rfl ?_
  refine Jvm.OwnW.bipush O dw_5 (r := (6 : Int32)) rfl (q := 7) rfl ?_
  refine Jvm.OwnW.lushr O dw_7 rfl (q := 8) rfl ?_
  refine Jvm.OwnW.l2i O dw_8 rfl (q := 9) rfl ?_
  exact Jvm.OwnW.retI O dw_9 rfl (by decide) (by decide) (by show some (Value.int (((p0 + (63 : Int64)).toUInt64 >>> ((6 : Int32) &&& 0x3f).toInt64.toUInt64).toInt64).toInt32) = some (Value.int (fn_w p0)); rw [fn_w])
theorem pd_1 : parseMethodDescriptor "(J)I" = some ⟨[.long], some .int⟩ := by decide +kernel
theorem df_0 : decode prog_9_method_3_code 0 = .ok (.lload_n 0, 1) := by decide +kernel
theorem df_1 : decode prog_9_method_3_code 1 = .ok (.invokestatic 18, 3) := by decide +kernel
theorem df_4 : decode prog_9_method_3_code 4 = .ok (.newarray .long, 2) := by decide +kernel
theorem df_6 : decode prog_9_method_3_code 6 = .ok (.areturn, 1) := by decide +kernel
theorem ef_f (p0 : Int64) (m : MethodId) : entryFrame m #[(.long p0)] 2 = mkF m 0 #[.val (.long p0), .second] [] := by first | (simp [entryFrame, mkF, argsToLocals, Value.category, maxLocals]; done) | rfl
theorem pn_f : plainFor (⟨"com/example/occupancy/occupancy/cell/internal/Words", "forBits", "(J)[J"⟩ : MethodName) = true := by first | exact plainFor_of_name (by first | (simp [plainName, overriddenIn]; done) | decide +kernel) | decide +kernel
set_option maxRecDepth 65536 in
set_option maxHeartbeats 40000000 in
theorem rm_f (l : Launch) (Z : State) (a0 : Array Value) (hw : ∀ d ∈ tables_1, d.before a0 Z = true) (p0 : Int64) (nn : Nat) (h0 : Heap) (hn : (fn_w p0).toInt = (nn : Int)) (hn4 : nn ≤ 4) :
    Met l Z (⟨"com/example/occupancy/occupancy/cell/internal/Words", "forBits", "(J)[J"⟩ : MethodName) prog_9_method_3_code 2 (some (.array .long)) [] ({ frames := 1, cells := 1, slots := 4, locals := 13 } : Room) #[(.long p0)] [] h0 (fun v h => ∃ x, v = some (.ref x) ∧ h0.size ≤ x ∧ Ar Z h x .long nn (fun _ => .long (0 : Int64))) := by
  refine Met.mk pn_f (ef_f p0) ?_
  intro C T hs0 O
  show Go C [] (fun v h => ∃ x, v = some (.ref x) ∧ h0.size ≤ x ∧ Ar Z h x .long nn (fun _ => .long (0 : Int64))) 1 4 (T.setTop (mkF C.m 0 #[.val (.long p0), .second] []))
  refine Jvm.OwnW.lloadN O df_0 rfl (q := 1) rfl ?_
  refine Jvm.OwnW.callS0 O (y := (⟨"com/example/occupancy/occupancy/cell/internal/Words", "wordCountOf", "(J)I"⟩ : MethodName)) (argsL := [(.long p0)]) (rest := []) df_1 (hw _ (List.mem_of_getElem? (i := 29) rfl)) (hw _ (List.mem_of_getElem? (i := 30) rfl)) (hw _ (List.mem_of_getElem? (i := 24) rfl)) (hw _ (List.mem_of_getElem? (i := 31) rfl)) (by decide) (rm_w l Z a0 hw p0 h0) rfl pd_1 rfl (hst := rfl) (W := 0) (Nat.le_of_eq rfl) (by decide) (by decide) (c2 := 0) (s2 := 0) rfl rfl (by decide) (by decide) rfl rfl (q := 4) rfl ?_
  intro v1 T1 O1 q1
  obtain rfl := q1
  show Go C _ _ _ _ (T1.setTop (mkF C.m 4 #[.val (.long p0), .second] [(.int (fn_w p0))]))
  refine Jvm.OwnW.newA' O1 df_4 (ty := .long) rfl (hw _ (List.mem_of_getElem? (i := 3) rfl)) (N := nn) hn (cap := 4) hn4 (by decide) (c2 := 1) (s2 := 4) rfl rfl (by decide) (by decide) (q := 6) rfl ?_
  intro nb2 T2 h2 g2 N2 O2 X2 V_nb2
  exact Jvm.OwnW.retA O2 df_6 rfl rfl (by first | rfl | (cases ((.ref nb2)) <;> rfl)) (by decide) (by decide) ⟨_, rfl, hs0 ▸ N2, V_nb2⟩
theorem dj_0 : decode prog_2_method_2_code 0 = .ok (.aload_n 0, 1) := by decide +kernel
theorem dj_1 : decode prog_2_method_2_code 1 = .ok (.invokespecial 17, 3) := by decide +kernel
theorem dj_4 : decode prog_2_method_2_code 4 = .ok (.aload_n 0, 1) := by decide +kernel
theorem dj_5 : decode prog_2_method_2_code 5 = .ok (.lload_n 1, 1) := by decide +kernel
theorem dj_6 : decode prog_2_method_2_code 6 = .ok (.putfield 22, 3) := by decide +kernel
theorem dj_9 : decode prog_2_method_2_code 9 = .ok (.aload_n 0, 1) := by decide +kernel
theorem dj_10 : decode prog_2_method_2_code 10 = .ok (.aload_n 3, 1) := by decide +kernel
theorem dj_11 : decode prog_2_method_2_code 11 = .ok (.putfield 26, 3) := by decide +kernel
theorem dj_14 : decode prog_2_method_2_code 14 = .ok (.return_, 1) := by decide +kernel
theorem ef_j (a1 : Addr) (p2 : Int64) (a4 : Addr) (m : MethodId) : entryFrame m #[(.ref a1), (.long p2), (.ref a4)] 4 = mkF m 0 #[.val (.ref a1), .val (.long p2), .second, .val (.ref a4)] [] := by first | (simp [entryFrame, mkF, argsToLocals, Value.category, maxLocals]; done) | rfl
theorem pn_j : plainFor (⟨"com/example/occupancy/occupancy/cell/internal/BitCells", "<init>", "(J[J)V"⟩ : MethodName) = true := by first | exact plainFor_of_name (by first | (simp [plainName, overriddenIn]; done) | decide +kernel) | decide +kernel
set_option maxRecDepth 65536 in
set_option maxHeartbeats 40000000 in
theorem rm_j (l : Launch) (Z : State) (a0 : Array Value) (hw : ∀ d ∈ tables_1, d.before a0 Z = true) (a1 : Addr) (p2 : Int64) (a4 : Addr) (h0 : Heap) (E_a1 : Exa Z h0 a1 "com/example/occupancy/occupancy/cell/internal/BitCells") (F_cellCount_a1 : Fld Z h0 a1 "com/example/occupancy/occupancy/cell/internal/BitCells" "cellCount" "J" (.long (0 : Int64))) (F_words_a1 : Fld Z h0 a1 "com/example/occupancy/occupancy/cell/internal/BitCells" "words" "[J" .null) :
    Met l Z (⟨"com/example/occupancy/occupancy/cell/internal/BitCells", "<init>", "(J[J)V"⟩ : MethodName) prog_2_method_2_code 4 none [] ({ frames := 1, cells := 0, slots := 0, locals := 12 } : Room) #[(.ref a1), (.long p2), (.ref a4)] [a1] h0 (fun v h => v = none ∧ Fld Z h a1 "com/example/occupancy/occupancy/cell/internal/BitCells" "cellCount" "J" (.long p2) ∧ Fld Z h a1 "com/example/occupancy/occupancy/cell/internal/BitCells" "words" "[J" (.ref a4)) := by
  refine Met.mk pn_j (ef_j a1 p2 a4) ?_
  intro C T hs0 O
  show Go C [a1] (fun v h => v = none ∧ Fld Z h a1 "com/example/occupancy/occupancy/cell/internal/BitCells" "cellCount" "J" (.long p2) ∧ Fld Z h a1 "com/example/occupancy/occupancy/cell/internal/BitCells" "words" "[J" (.ref a4)) 0 0 (T.setTop (mkF C.m 0 #[.val (.ref a1), .val (.long p2), .second, .val (.ref a4)] []))
  refine Jvm.OwnW.aloadN O dj_0 rfl rfl (q := 1) rfl ?_
  refine Jvm.OwnW.initO O dj_1 (hw _ (List.mem_of_getElem? (i := 36) rfl)) (hw _ (List.mem_of_getElem? (i := 37) rfl)) (hw _ (List.mem_of_getElem? (i := 38) rfl)) rfl (by decide) (W := 0) (Nat.le_of_eq rfl) (by decide) (q := 4) rfl ?_
  intro T1 O1
  refine Jvm.OwnW.aloadN O1 dj_4 rfl rfl (q := 5) rfl ?_
  refine Jvm.OwnW.lloadN O1 dj_5 rfl (q := 6) rfl ?_
  refine Jvm.OwnW.putF O1 dj_6 (host := "") (Or.inl (hw _ (List.mem_of_getElem? (i := 39) rfl))) Via.refl F_cellCount_a1 E_a1 (Or.inr ⟨hw _ (List.mem_of_getElem? (i := 40) rfl), rfl, rfl⟩) (hw _ (List.mem_of_getElem? (i := 5) rfl)) (ty := .long) (by decide) rfl rfl (Or.inl (List.mem_cons_self ..)) (q := 9) rfl ?_
  intro T2 h2 O2 W2
  have E_a1 := E_a1.wr W2
  have F_cellCount_a1 := F_cellCount_a1.same W2
  have F_words_a1 := F_words_a1.other W2 (Or.inr (slot_ne (Or.inr (hw _ (List.mem_of_getElem? (i := 42) rfl))) (Or.inr (hw _ (List.mem_of_getElem? (i := 40) rfl))) (by decide) (t := (.array .long)) (t' := .long) (by decide) (by decide)))
  refine Jvm.OwnW.aloadN O2 dj_9 rfl rfl (q := 10) rfl ?_
  refine Jvm.OwnW.aloadN O2 dj_10 rfl rfl (q := 11) rfl ?_
  refine Jvm.OwnW.putF O2 dj_11 (host := "") (Or.inl (hw _ (List.mem_of_getElem? (i := 41) rfl))) Via.refl F_words_a1 E_a1 (Or.inr ⟨hw _ (List.mem_of_getElem? (i := 42) rfl), rfl, rfl⟩) (hw _ (List.mem_of_getElem? (i := 5) rfl)) (ty := (.array .long)) (by decide) rfl rfl (Or.inl (List.mem_cons_self ..)) (q := 14) rfl ?_
  intro T3 h3 O3 W3
  have E_a1 := E_a1.wr W3
  have F_cellCount_a1 := F_cellCount_a1.other W3 (Or.inr (slot_ne (Or.inr (hw _ (List.mem_of_getElem? (i := 40) rfl))) (Or.inr (hw _ (List.mem_of_getElem? (i := 42) rfl))) (by decide) (t := .long) (t' := (.array .long)) (by decide) (by decide)))
  have F_words_a1 := F_words_a1.same W3
  exact Jvm.OwnW.ret0 O3 dj_14 (by decide) (by decide) ⟨rfl, F_cellCount_a1, F_words_a1⟩
theorem pd_2 : parseMethodDescriptor "(J)J" = some ⟨[.long], some .long⟩ := by decide +kernel
theorem pd_3 : parseMethodDescriptor "(J)[J" = some ⟨[.long], some (.array .long)⟩ := by decide +kernel
theorem pd_4 : parseMethodDescriptor "(J[J)V" = some ⟨[.long, (.array .long)], none⟩ := by decide +kernel
theorem di_0 : decode prog_2_method_1_code 0 = .ok (.aload_n 0, 1) := by decide +kernel
theorem di_1 : decode prog_2_method_1_code 1 = .ok (.lload_n 1, 1) := by decide +kernel
theorem di_2 : decode prog_2_method_1_code 2 = .ok (.invokestatic 3, 3) := by decide +kernel
theorem di_5 : decode prog_2_method_1_code 5 = .ok (.lload_n 1, 1) := by decide +kernel
theorem di_6 : decode prog_2_method_1_code 6 = .ok (.invokestatic 9, 3) := by decide +kernel
theorem di_9 : decode prog_2_method_1_code 9 = .ok (.invokespecial 13, 3) := by decide +kernel
theorem di_12 : decode prog_2_method_1_code 12 = .ok (.return_, 1) := by decide +kernel
theorem ef_i (a1 : Addr) (p2 : Int64) (m : MethodId) : entryFrame m #[(.ref a1), (.long p2)] 3 = mkF m 0 #[.val (.ref a1), .val (.long p2), .second] [] := by first | (simp [entryFrame, mkF, argsToLocals, Value.category, maxLocals]; done) | rfl
theorem pn_i : plainFor (⟨"com/example/occupancy/occupancy/cell/internal/BitCells", "<init>", "(J)V"⟩ : MethodName) = true := by first | exact plainFor_of_name (by first | (simp [plainName, overriddenIn]; done) | decide +kernel) | decide +kernel
set_option maxRecDepth 65536 in
set_option maxHeartbeats 40000000 in
theorem rm_i (l : Launch) (Z : State) (a0 : Array Value) (hw : ∀ d ∈ tables_1, d.before a0 Z = true) (a1 : Addr) (p2 : Int64) (nn : Nat) (h0 : Heap) (E_a1 : Exa Z h0 a1 "com/example/occupancy/occupancy/cell/internal/BitCells") (F_cellCount_a1 : Fld Z h0 a1 "com/example/occupancy/occupancy/cell/internal/BitCells" "cellCount" "J" (.long (0 : Int64))) (F_words_a1 : Fld Z h0 a1 "com/example/occupancy/occupancy/cell/internal/BitCells" "words" "[J" .null) (hlo : ¬ p2 < 1) (hhi : ¬ 137438952896 < p2) (hn : (fn_w p2).toInt = (nn : Int)) (hn4 : nn ≤ 4) :
    Met l Z (⟨"com/example/occupancy/occupancy/cell/internal/BitCells", "<init>", "(J)V"⟩ : MethodName) prog_2_method_1_code 3 none [] ({ frames := 2, cells := 3, slots := 44, locals := 30 } : Room) #[(.ref a1), (.long p2)] [a1] h0 (fun v h => v = none ∧ ∃ al, h0.size ≤ al ∧ Fld Z h a1 "com/example/occupancy/occupancy/cell/internal/BitCells" "words" "[J" (.ref al) ∧ Ar Z h al .long nn (fun _ => .long (0 : Int64))) := by
  refine Met.mk pn_i (ef_i a1 p2) ?_
  intro C T hs0 O
  show Go C [a1] (fun v h => v = none ∧ ∃ al, h0.size ≤ al ∧ Fld Z h a1 "com/example/occupancy/occupancy/cell/internal/BitCells" "words" "[J" (.ref al) ∧ Ar Z h al .long nn (fun _ => .long (0 : Int64))) 3 44 (T.setTop (mkF C.m 0 #[.val (.ref a1), .val (.long p2), .second] []))
  refine Jvm.OwnW.aloadN O di_0 rfl rfl (q := 1) rfl ?_
  refine Jvm.OwnW.lloadN O di_1 rfl (q := 2) rfl ?_
  refine Jvm.OwnW.callS O (y := (⟨"com/example/occupancy/occupancy/cell/internal/BitCells", "checkedCellCount", "(J)J"⟩ : MethodName)) (argsL := [(.long p2)]) (rest := [(.ref a1)]) di_2 (hw _ (List.mem_of_getElem? (i := 10) rfl)) (hw _ (List.mem_of_getElem? (i := 11) rfl)) (hw _ (List.mem_of_getElem? (i := 6) rfl)) (hw _ (List.mem_of_getElem? (i := 12) rfl)) (by decide) (rm_c l Z a0 hw p2 h0 hlo hhi) rfl pd_2 rfl (hst := rfl) (W := 1) (Nat.le_of_eq rfl) (by decide) (by decide) (c2 := 2) (s2 := 40) rfl rfl (by decide) (by decide) all0 (q := 5) rfl ?_
  intro v1 T1 h1 O1 K1 q1
  obtain rfl := q1
  have E_a1 := E_a1.keep K1
  have F_cellCount_a1 := F_cellCount_a1.keep K1 nin0
  have F_words_a1 := F_words_a1.keep K1 nin0
  show Go C _ _ _ _ (T1.setTop (mkF C.m 5 #[.val (.ref a1), .val (.long p2), .second] [(.long p2), (.ref a1)]))
  refine Jvm.OwnW.lloadN O1 di_5 rfl (q := 6) rfl ?_
  have lt_a1 := E_a1.lt
  refine Jvm.OwnW.callS O1 (y := (⟨"com/example/occupancy/occupancy/cell/internal/Words", "forBits", "(J)[J"⟩ : MethodName)) (argsL := [(.long p2)]) (rest := [(.long p2), (.ref a1)]) di_6 (hw _ (List.mem_of_getElem? (i := 26) rfl)) (hw _ (List.mem_of_getElem? (i := 27) rfl)) (hw _ (List.mem_of_getElem? (i := 24) rfl)) (hw _ (List.mem_of_getElem? (i := 28) rfl)) (by decide) (rm_f l Z a0 hw p2 nn h1 hn hn4) rfl pd_3 rfl (hst := rfl) (W := 3) (Nat.le_of_eq rfl) (by decide) (by decide) (c2 := 3) (s2 := 44) rfl rfl (by decide) (by decide) all0 (q := 9) rfl ?_
  intro v2 T2 h2 O2 K2 q2
  obtain ⟨al, rfl, m_al, V_al⟩ := q2
  have E_a1 := E_a1.keep K2
  have F_cellCount_a1 := F_cellCount_a1.keep K2 nin0
  have F_words_a1 := F_words_a1.keep K2 nin0
  have N_al : C.s.heap.size ≤ al := Nat.le_trans O1.size m_al
  have ne_a1_al : a1 ≠ al := Nat.ne_of_lt (Nat.lt_of_lt_of_le lt_a1 m_al)
  show Go C _ _ _ _ (T2.setTop (mkF C.m 9 #[.val (.ref a1), .val (.long p2), .second] [(.ref al), (.long p2), (.ref a1)]))
  refine Jvm.OwnW.callI O2 (y := (⟨"com/example/occupancy/occupancy/cell/internal/BitCells", "<init>", "(J[J)V"⟩ : MethodName)) (a := a1) (argsL := [(.long p2), (.ref al)]) (rest := []) di_9 rfl (hw _ (List.mem_of_getElem? (i := 33) rfl)) (hw _ (List.mem_of_getElem? (i := 34) rfl)) (hw _ (List.mem_of_getElem? (i := 6) rfl)) (hw _ (List.mem_of_getElem? (i := 35) rfl)) (by decide) (rm_j l Z a0 hw a1 p2 al h2 E_a1 F_cellCount_a1 F_words_a1) rfl pd_4 rfl (hst := rfl) (W := 0) (Nat.le_of_eq rfl) (by decide) (by decide) (c2 := 3) (s2 := 44) rfl rfl (by decide) (by decide) (allS (Or.inl (List.mem_cons_self ..)) all0) (q := 12) rfl ?_
  intro v3 T3 h3 O3 K3 q3
  obtain ⟨rfl, F_cellCount_a1, F_words_a1⟩ := q3
  have E_a1 := E_a1.keep K3
  have V_al := V_al.keep K3 (ninS (Ne.symm ne_a1_al) nin0)
  show Go C _ _ _ _ (T3.setTop (mkF C.m 12 #[.val (.ref a1), .val (.long p2), .second] []))
  exact Jvm.OwnW.ret0 O3 di_12 (by decide) (by decide) ⟨rfl, al, hs0 ▸ N_al, F_words_a1, V_al⟩
def own_g (w : Int64) (j : Nat) : Int64 := if j = 0 then w else 0
def own_o (g : Nat → Int64) (k : Nat) (b : Int64) (j : Nat) : Int64 := if j = k then g j ||| b else g j
theorem own_gV (w : Int64) (j : Nat) : updV (fun _ => .long (0 : Int64)) 0 (.long w) j = .long (own_g w j) := by
  simp only [updV, own_g]; split <;> rfl
theorem own_oV (g : Nat → Int64) (k : Nat) (b : Int64) (j : Nat) : updV (fun j => .long (g j)) k (.long (g k ||| b)) j = .long (own_o g k b j) := by
  simp only [updV, own_o]; split
  · rename_i e; subst e; rfl
  · rfl
theorem ds_0 : decode prog_2_method_11_code 0 = .ok (.aload_n 0, 1) := by decide +kernel
theorem ds_1 : decode prog_2_method_11_code 1 = .ok (.getfield 26, 3) := by decide +kernel
theorem ds_4 : decode prog_2_method_11_code 4 = .ok (.iload_n 1, 1) := by decide +kernel
theorem ds_5 : decode prog_2_method_11_code 5 = .ok (.lload_n 2, 1) := by decide +kernel
theorem ds_6 : decode prog_2_method_11_code 6 = .ok (.lastore, 1) := by decide +kernel
theorem ds_7 : decode prog_2_method_11_code 7 = .ok (.return_, 1) := by decide +kernel
theorem ef_s (a1 : Addr) (p2 : Int64) (al : Addr) (m : MethodId) : entryFrame m #[(.ref a1), (.int (0 : Int32)), (.long p2)] 4 = mkF m 0 #[.val (.ref a1), .val (.int (0 : Int32)), .val (.long p2), .second] [] := by first | (simp [entryFrame, mkF, argsToLocals, Value.category, maxLocals]; done) | rfl
theorem pn_s : plainFor (⟨"com/example/occupancy/occupancy/cell/internal/BitCells", "setWord", "(IJ)V"⟩ : MethodName) = true := by first | exact plainFor_of_name (by first | (simp [plainName, overriddenIn]; done) | decide +kernel) | decide +kernel
set_option maxRecDepth 65536 in
set_option maxHeartbeats 40000000 in
theorem rm_s (l : Launch) (Z : State) (a0 : Array Value) (hw : ∀ d ∈ tables_1, d.before a0 Z = true) (a1 : Addr) (p2 : Int64) (al : Addr) (nn : Nat) (h0 : Heap) (E_a1 : Exa Z h0 a1 "com/example/occupancy/occupancy/cell/internal/BitCells") (F_words_a1 : Fld Z h0 a1 "com/example/occupancy/occupancy/cell/internal/BitCells" "words" "[J" (.ref al)) (n1a : a1 ≠ al) (V_al : Ar Z h0 al .long nn (fun _ => .long (0 : Int64))) (hn1 : 0 < nn) :
    Met l Z (⟨"com/example/occupancy/occupancy/cell/internal/BitCells", "setWord", "(IJ)V"⟩ : MethodName) prog_2_method_11_code 4 none [] ({ frames := 0, cells := 0, slots := 0, locals := 0 } : Room) #[(.ref a1), (.int (0 : Int32)), (.long p2)] [al] h0 (fun v h => v = none ∧ Ar Z h al .long nn (fun j => .long (own_g p2 j))) := by
  refine Met.mk pn_s (ef_s a1 p2 al) ?_
  intro C T hs0 O
  show Go C [al] (fun v h => v = none ∧ Ar Z h al .long nn (fun j => .long (own_g p2 j))) 0 0 (T.setTop (mkF C.m 0 #[.val (.ref a1), .val (.int (0 : Int32)), .val (.long p2), .second] []))
  refine Jvm.OwnW.aloadN O ds_0 rfl rfl (q := 1) rfl ?_
  refine Jvm.OwnW.getF O ds_1 (host := "") (Or.inl (hw _ (List.mem_of_getElem? (i := 41) rfl))) Via.refl F_words_a1 (q := 4) rfl ?_
  intro T1 O1
  refine Jvm.OwnW.iloadN O1 ds_4 rfl (q := 5) rfl ?_
  refine Jvm.OwnW.lloadN O1 ds_5 rfl (q := 6) rfl ?_
  refine Jvm.OwnW.lasA O1 ds_6 V_al (i := 0) rfl hn1 (Or.inl (List.mem_cons_self ..)) (q := 7) rfl ?_
  intro T2 h2 O2 W2
  have V_al := V_al.set W2 hn1
  have E_a1 := E_a1.wr W2
  have F_words_a1 := F_words_a1.other W2 (Or.inl n1a)
  exact Jvm.OwnW.ret0 O2 ds_7 (by decide) (by decide) ⟨rfl, V_al.congr fun j _ => own_gV p2 j⟩
theorem da0_0 : decode prog_2_method_13_code 0 = .ok (.aload_n 0, 1) := by decide +kernel
theorem da0_1 : decode prog_2_method_13_code 1 = .ok (.getfield 26, 3) := by decide +kernel
theorem da0_4 : decode prog_2_method_13_code 4 = .ok (.astore_n 3, 1) := by decide +kernel
theorem da0_5 : decode prog_2_method_13_code 5 = .ok (.iconst 0, 1) := by decide +kernel
theorem da0_6 : decode prog_2_method_13_code 6 = .ok (.istore 4, 2) := by decide +kernel
theorem da0_8 : decode prog_2_method_13_code 8 = .ok (.iload 4, 2) := by decide +kernel
theorem da0_10 : decode prog_2_method_13_code 10 = .ok (.iload_n 2, 1) := by decide +kernel
theorem da0_11 : decode prog_2_method_13_code 11 = .ok (.if_icmp .ge 31, 3) := by decide +kernel
theorem da0_42 : decode prog_2_method_13_code 42 = .ok (.return_, 1) := by decide +kernel
theorem ef_a0 (a1 : Addr) (a2 : Addr) (al : Addr) (x1 x2 x3 : Int64) (m : MethodId) : entryFrame m #[(.ref a1), (.ref a2), (.int (0 : Int32))] 7 = mkF m 0 #[.val (.ref a1), .val (.ref a2), .val (.int (0 : Int32)), .unset, .unset, .unset, .unset] [] := by first | (simp [entryFrame, mkF, argsToLocals, Value.category, maxLocals]; done) | rfl
theorem pn_a0 : plainFor (⟨"com/example/occupancy/occupancy/cell/internal/BitCells", "setAll", "([JI)V"⟩ : MethodName) = true := by first | exact plainFor_of_name (by first | (simp [plainName, overriddenIn]; done) | decide +kernel) | decide +kernel
set_option maxRecDepth 65536 in
set_option maxHeartbeats 40000000 in
theorem rm_a0 (l : Launch) (Z : State) (a0 : Array Value) (hw : ∀ d ∈ tables_1, d.before a0 Z = true) (a1 : Addr) (a2 : Addr) (al : Addr) (x1 x2 x3 : Int64) (k1 k2 k3 nn : Nat) (g : Nat → Int64) (h0 : Heap) (E_a1 : Exa Z h0 a1 "com/example/occupancy/occupancy/cell/internal/BitCells") (F_words_a1 : Fld Z h0 a1 "com/example/occupancy/occupancy/cell/internal/BitCells" "words" "[J" (.ref al)) (n1a : a1 ≠ al) (V_al : Ar Z h0 al .long nn (fun j => .long (g j))) (V_a2 : Ar Z h0 a2 .long 3 (lf [.long x1, .long x2, .long x3])) (n2a : a2 ≠ al) (hk1 : (((x1.toUInt64 >>> ((6 : Int32) &&& 0x3f).toInt64.toUInt64).toInt64).toInt32).toInt = (k1 : Int)) (hn1 : k1 < nn) (hk2 : (((x2.toUInt64 >>> ((6 : Int32) &&& 0x3f).toInt64.toUInt64).toInt64).toInt32).toInt = (k2 : Int)) (hn2 : k2 < nn) (hk3 : (((x3.toUInt64 >>> ((6 : Int32) &&& 0x3f).toInt64.toUInt64).toInt64).toInt32).toInt = (k3 : Int)) (hn3 : k3 < nn) :
    Met l Z (⟨"com/example/occupancy/occupancy/cell/internal/BitCells", "setAll", "([JI)V"⟩ : MethodName) prog_2_method_13_code 7 none [] ({ frames := 0, cells := 0, slots := 0, locals := 0 } : Room) #[(.ref a1), (.ref a2), (.int (0 : Int32))] [al] h0 (fun v h => v = none ∧ Ar Z h al .long nn (fun j => .long (g j))) := by
  refine Met.mk pn_a0 (ef_a0 a1 a2 al x1 x2 x3) ?_
  intro C T hs0 O
  show Go C [al] (fun v h => v = none ∧ Ar Z h al .long nn (fun j => .long (g j))) 0 0 (T.setTop (mkF C.m 0 #[.val (.ref a1), .val (.ref a2), .val (.int (0 : Int32)), .unset, .unset, .unset, .unset] []))
  refine Jvm.OwnW.aloadN O da0_0 rfl rfl (q := 1) rfl ?_
  refine Jvm.OwnW.getF O da0_1 (host := "") (Or.inl (hw _ (List.mem_of_getElem? (i := 41) rfl))) Via.refl F_words_a1 (q := 4) rfl ?_
  intro T1 O1
  refine Jvm.OwnW.astoreN O1 da0_4 rfl (L' := #[.val (.ref a1), .val (.ref a2), .val (.int (0 : Int32)), .val (.ref al), .unset, .unset, .unset]) rfl (q := 5) rfl ?_
  refine Jvm.OwnW.iconst O1 da0_5 (r := (0 : Int32)) rfl (q := 6) rfl ?_
  refine Jvm.OwnW.istore O1 da0_6 (L' := #[.val (.ref a1), .val (.ref a2), .val (.int (0 : Int32)), .val (.ref al), .val (.int (0 : Int32)), .unset, .unset]) rfl (q := 8) rfl ?_
  refine Jvm.OwnW.iload O1 da0_8 rfl (q := 10) rfl ?_
  refine Jvm.OwnW.iloadN O1 da0_10 rfl (q := 11) rfl ?_
  refine Jvm.OwnW.icmpYes O1 da0_11 (flt (show ¬ ((0 : Int32) < (0 : Int32)) from (by decide))).2.1 (by decide) (q := 42) rfl ?_
  exact Jvm.OwnW.ret0 O1 da0_42 (by decide) (by decide) ⟨rfl, V_al⟩
theorem da1_0 : decode prog_2_method_13_code 0 = .ok (.aload_n 0, 1) := by decide +kernel
theorem da1_1 : decode prog_2_method_13_code 1 = .ok (.getfield 26, 3) := by decide +kernel
theorem da1_4 : decode prog_2_method_13_code 4 = .ok (.astore_n 3, 1) := by decide +kernel
theorem da1_5 : decode prog_2_method_13_code 5 = .ok (.iconst 0, 1) := by decide +kernel
theorem da1_6 : decode prog_2_method_13_code 6 = .ok (.istore 4, 2) := by decide +kernel
theorem da1_8 : decode prog_2_method_13_code 8 = .ok (.iload 4, 2) := by decide +kernel
theorem da1_10 : decode prog_2_method_13_code 10 = .ok (.iload_n 2, 1) := by decide +kernel
theorem da1_11 : decode prog_2_method_13_code 11 = .ok (.if_icmp .ge 31, 3) := by decide +kernel
theorem da1_14 : decode prog_2_method_13_code 14 = .ok (.aload_n 1, 1) := by decide +kernel
theorem da1_15 : decode prog_2_method_13_code 15 = .ok (.iload 4, 2) := by decide +kernel
theorem da1_17 : decode prog_2_method_13_code 17 = .ok (.laload, 1) := by decide +kernel
theorem da1_18 : decode prog_2_method_13_code 18 = .ok (.lstore 5, 2) := by decide +kernel
theorem da1_20 : decode prog_2_method_13_code 20 = .ok (.aload_n 3, 1) := by decide +kernel
theorem da1_21 : decode prog_2_method_13_code 21 = .ok (.lload 5, 2) := by decide +kernel
theorem da1_23 : decode prog_2_method_13_code 23 = .ok (.bipush 6, 2) := by decide +kernel
theorem da1_25 : decode prog_2_method_13_code 25 = .ok (.lushr, 1) := by decide +kernel
theorem da1_26 : decode prog_2_method_13_code 26 = .ok (.l2i, 1) := by decide +kernel
theorem da1_27 : decode prog_2_method_13_code 27 = .ok (.dup2, 1) := by decide +kernel
theorem da1_28 : decode prog_2_method_13_code 28 = .ok (.laload, 1) := by decide +kernel
theorem da1_29 : decode prog_2_method_13_code 29 = .ok (.lconst 1, 1) := by decide +kernel
theorem da1_30 : decode prog_2_method_13_code 30 = .ok (.lload 5, 2) := by decide +kernel
theorem da1_32 : decode prog_2_method_13_code 32 = .ok (.l2i, 1) := by decide +kernel
theorem da1_33 : decode prog_2_method_13_code 33 = .ok (.lshl, 1) := by decide +kernel
theorem da1_34 : decode prog_2_method_13_code 34 = .ok (.lor, 1) := by decide +kernel
theorem da1_35 : decode prog_2_method_13_code 35 = .ok (.lastore, 1) := by decide +kernel
theorem da1_36 : decode prog_2_method_13_code 36 = .ok (.iinc 4 1, 3) := by decide +kernel
theorem da1_39 : decode prog_2_method_13_code 39 = .ok (.goto (-31), 3) := by decide +kernel
theorem da1_42 : decode prog_2_method_13_code 42 = .ok (.return_, 1) := by decide +kernel
theorem ef_a1 (a1 : Addr) (a2 : Addr) (al : Addr) (x1 x2 x3 : Int64) (m : MethodId) : entryFrame m #[(.ref a1), (.ref a2), (.int (1 : Int32))] 7 = mkF m 0 #[.val (.ref a1), .val (.ref a2), .val (.int (1 : Int32)), .unset, .unset, .unset, .unset] [] := by first | (simp [entryFrame, mkF, argsToLocals, Value.category, maxLocals]; done) | rfl
theorem pn_a1 : plainFor (⟨"com/example/occupancy/occupancy/cell/internal/BitCells", "setAll", "([JI)V"⟩ : MethodName) = true := by first | exact plainFor_of_name (by first | (simp [plainName, overriddenIn]; done) | decide +kernel) | decide +kernel
set_option maxRecDepth 65536 in
set_option maxHeartbeats 40000000 in
theorem rm_a1 (l : Launch) (Z : State) (a0 : Array Value) (hw : ∀ d ∈ tables_1, d.before a0 Z = true) (a1 : Addr) (a2 : Addr) (al : Addr) (x1 x2 x3 : Int64) (k1 k2 k3 nn : Nat) (g : Nat → Int64) (h0 : Heap) (E_a1 : Exa Z h0 a1 "com/example/occupancy/occupancy/cell/internal/BitCells") (F_words_a1 : Fld Z h0 a1 "com/example/occupancy/occupancy/cell/internal/BitCells" "words" "[J" (.ref al)) (n1a : a1 ≠ al) (V_al : Ar Z h0 al .long nn (fun j => .long (g j))) (V_a2 : Ar Z h0 a2 .long 3 (lf [.long x1, .long x2, .long x3])) (n2a : a2 ≠ al) (hk1 : (((x1.toUInt64 >>> ((6 : Int32) &&& 0x3f).toInt64.toUInt64).toInt64).toInt32).toInt = (k1 : Int)) (hn1 : k1 < nn) (hk2 : (((x2.toUInt64 >>> ((6 : Int32) &&& 0x3f).toInt64.toUInt64).toInt64).toInt32).toInt = (k2 : Int)) (hn2 : k2 < nn) (hk3 : (((x3.toUInt64 >>> ((6 : Int32) &&& 0x3f).toInt64.toUInt64).toInt64).toInt32).toInt = (k3 : Int)) (hn3 : k3 < nn) :
    Met l Z (⟨"com/example/occupancy/occupancy/cell/internal/BitCells", "setAll", "([JI)V"⟩ : MethodName) prog_2_method_13_code 7 none [] ({ frames := 0, cells := 0, slots := 0, locals := 0 } : Room) #[(.ref a1), (.ref a2), (.int (1 : Int32))] [al] h0 (fun v h => v = none ∧ Ar Z h al .long nn (fun j => .long ((own_o g k1 ((1 : Int64) <<< (x1.toInt32 &&& 0x3f).toInt64)) j))) := by
  refine Met.mk pn_a1 (ef_a1 a1 a2 al x1 x2 x3) ?_
  intro C T hs0 O
  show Go C [al] (fun v h => v = none ∧ Ar Z h al .long nn (fun j => .long ((own_o g k1 ((1 : Int64) <<< (x1.toInt32 &&& 0x3f).toInt64)) j))) 0 0 (T.setTop (mkF C.m 0 #[.val (.ref a1), .val (.ref a2), .val (.int (1 : Int32)), .unset, .unset, .unset, .unset] []))
  refine Jvm.OwnW.aloadN O da1_0 rfl rfl (q := 1) rfl ?_
  refine Jvm.OwnW.getF O da1_1 (host := "") (Or.inl (hw _ (List.mem_of_getElem? (i := 41) rfl))) Via.refl F_words_a1 (q := 4) rfl ?_
  intro T1 O1
  refine Jvm.OwnW.astoreN O1 da1_4 rfl (L' := #[.val (.ref a1), .val (.ref a2), .val (.int (1 : Int32)), .val (.ref al), .unset, .unset, .unset]) rfl (q := 5) rfl ?_
  refine Jvm.OwnW.iconst O1 da1_5 (r := (0 : Int32)) rfl (q := 6) rfl ?_
  refine Jvm.OwnW.istore O1 da1_6 (L' := #[.val (.ref a1), .val (.ref a2), .val (.int (1 : Int32)), .val (.ref al), .val (.int (0 : Int32)), .unset, .unset]) rfl (q := 8) rfl ?_
  refine Jvm.OwnW.iload O1 da1_8 rfl (q := 10) rfl ?_
  refine Jvm.OwnW.iloadN O1 da1_10 rfl (q := 11) rfl ?_
  refine Jvm.OwnW.icmpNo O1 da1_11 (tlt (show (0 : Int32) < (1 : Int32) from (by decide))).2.1 (q := 14) rfl ?_
  refine Jvm.OwnW.aloadN O1 da1_14 rfl rfl (q := 15) rfl ?_
  refine Jvm.OwnW.iload O1 da1_15 rfl (q := 17) rfl ?_
  refine Jvm.OwnW.lalA O1 da1_17 V_a2 (i := 0) rfl (by decide) (v := (.long x1)) rfl (q := 18) rfl ?_
  refine Jvm.OwnW.lstore O1 da1_18 (L' := #[.val (.ref a1), .val (.ref a2), .val (.int (1 : Int32)), .val (.ref al), .val (.int (0 : Int32)), .val (.long x1), .second]) rfl (q := 20) rfl ?_
  refine Jvm.OwnW.aloadN O1 da1_20 rfl rfl (q := 21) rfl ?_
  refine Jvm.OwnW.lload O1 da1_21 rfl (q := 23) rfl ?_
  refine Jvm.OwnW.bipush O1 da1_23 (r := (6 : Int32)) rfl (q := 25) rfl ?_
  refine Jvm.OwnW.lushr O1 da1_25 rfl (q := 26) rfl ?_
  refine Jvm.OwnW.l2i O1 da1_26 rfl (q := 27) rfl ?_
  refine Jvm.OwnW.dup2 O1 da1_27 rfl rfl (q := 28) rfl ?_
  refine Jvm.OwnW.lalA O1 da1_28 V_al (i := k1) hk1 hn1 (v := (.long (g k1))) rfl (q := 29) rfl ?_
  refine Jvm.OwnW.lconst O1 da1_29 (r := (1 : Int64)) rfl (q := 30) rfl ?_
  refine Jvm.OwnW.lload O1 da1_30 rfl (q := 32) rfl ?_
  refine Jvm.OwnW.l2i O1 da1_32 rfl (q := 33) rfl ?_
  refine Jvm.OwnW.lshl O1 da1_33 rfl (q := 34) rfl ?_
  refine Jvm.OwnW.lor O1 da1_34 rfl (q := 35) rfl ?_
  refine Jvm.OwnW.lasA O1 da1_35 V_al (i := k1) hk1 hn1 (Or.inl (List.mem_cons_self ..)) (q := 36) rfl ?_
  intro T2 h2 O2 W2
  have V_al := V_al.set W2 hn1
  have E_a1 := E_a1.wr W2
  have F_words_a1 := F_words_a1.other W2 (Or.inl n1a)
  have V_a2 := V_a2.other W2 n2a
  have V_al : Ar Z h2 al .long nn (fun j => .long ((own_o g k1 ((1 : Int64) <<< (x1.toInt32 &&& 0x3f).toInt64)) j)) := V_al.congr fun j _ => own_oV _ _ _ j
  refine Jvm.OwnW.iinc O2 da1_36 rfl (L' := #[.val (.ref a1), .val (.ref a2), .val (.int (1 : Int32)), .val (.ref al), .val (.int (1 : Int32)), .val (.long x1), .second]) rfl (q := 39) rfl ?_
  refine Jvm.OwnW.goto O2 da1_39 (by decide) (q := 8) rfl ?_
  refine Jvm.OwnW.iload O2 da1_8 rfl (q := 10) rfl ?_
  refine Jvm.OwnW.iloadN O2 da1_10 rfl (q := 11) rfl ?_
  refine Jvm.OwnW.icmpYes O2 da1_11 (flt (show ¬ ((1 : Int32) < (1 : Int32)) from (by decide))).2.1 (by decide) (q := 42) rfl ?_
  exact Jvm.OwnW.ret0 O2 da1_42 (by decide) (by decide) ⟨rfl, V_al⟩
theorem da2_0 : decode prog_2_method_13_code 0 = .ok (.aload_n 0, 1) := by decide +kernel
theorem da2_1 : decode prog_2_method_13_code 1 = .ok (.getfield 26, 3) := by decide +kernel
theorem da2_4 : decode prog_2_method_13_code 4 = .ok (.astore_n 3, 1) := by decide +kernel
theorem da2_5 : decode prog_2_method_13_code 5 = .ok (.iconst 0, 1) := by decide +kernel
theorem da2_6 : decode prog_2_method_13_code 6 = .ok (.istore 4, 2) := by decide +kernel
theorem da2_8 : decode prog_2_method_13_code 8 = .ok (.iload 4, 2) := by decide +kernel
theorem da2_10 : decode prog_2_method_13_code 10 = .ok (.iload_n 2, 1) := by decide +kernel
theorem da2_11 : decode prog_2_method_13_code 11 = .ok (.if_icmp .ge 31, 3) := by decide +kernel
theorem da2_14 : decode prog_2_method_13_code 14 = .ok (.aload_n 1, 1) := by decide +kernel
theorem da2_15 : decode prog_2_method_13_code 15 = .ok (.iload 4, 2) := by decide +kernel
theorem da2_17 : decode prog_2_method_13_code 17 = .ok (.laload, 1) := by decide +kernel
theorem da2_18 : decode prog_2_method_13_code 18 = .ok (.lstore 5, 2) := by decide +kernel
theorem da2_20 : decode prog_2_method_13_code 20 = .ok (.aload_n 3, 1) := by decide +kernel
theorem da2_21 : decode prog_2_method_13_code 21 = .ok (.lload 5, 2) := by decide +kernel
theorem da2_23 : decode prog_2_method_13_code 23 = .ok (.bipush 6, 2) := by decide +kernel
theorem da2_25 : decode prog_2_method_13_code 25 = .ok (.lushr, 1) := by decide +kernel
theorem da2_26 : decode prog_2_method_13_code 26 = .ok (.l2i, 1) := by decide +kernel
theorem da2_27 : decode prog_2_method_13_code 27 = .ok (.dup2, 1) := by decide +kernel
theorem da2_28 : decode prog_2_method_13_code 28 = .ok (.laload, 1) := by decide +kernel
theorem da2_29 : decode prog_2_method_13_code 29 = .ok (.lconst 1, 1) := by decide +kernel
theorem da2_30 : decode prog_2_method_13_code 30 = .ok (.lload 5, 2) := by decide +kernel
theorem da2_32 : decode prog_2_method_13_code 32 = .ok (.l2i, 1) := by decide +kernel
theorem da2_33 : decode prog_2_method_13_code 33 = .ok (.lshl, 1) := by decide +kernel
theorem da2_34 : decode prog_2_method_13_code 34 = .ok (.lor, 1) := by decide +kernel
theorem da2_35 : decode prog_2_method_13_code 35 = .ok (.lastore, 1) := by decide +kernel
theorem da2_36 : decode prog_2_method_13_code 36 = .ok (.iinc 4 1, 3) := by decide +kernel
theorem da2_39 : decode prog_2_method_13_code 39 = .ok (.goto (-31), 3) := by decide +kernel
theorem da2_42 : decode prog_2_method_13_code 42 = .ok (.return_, 1) := by decide +kernel
theorem ef_a2 (a1 : Addr) (a2 : Addr) (al : Addr) (x1 x2 x3 : Int64) (m : MethodId) : entryFrame m #[(.ref a1), (.ref a2), (.int (2 : Int32))] 7 = mkF m 0 #[.val (.ref a1), .val (.ref a2), .val (.int (2 : Int32)), .unset, .unset, .unset, .unset] [] := by first | (simp [entryFrame, mkF, argsToLocals, Value.category, maxLocals]; done) | rfl
theorem pn_a2 : plainFor (⟨"com/example/occupancy/occupancy/cell/internal/BitCells", "setAll", "([JI)V"⟩ : MethodName) = true := by first | exact plainFor_of_name (by first | (simp [plainName, overriddenIn]; done) | decide +kernel) | decide +kernel
set_option maxRecDepth 65536 in
set_option maxHeartbeats 40000000 in
theorem rm_a2 (l : Launch) (Z : State) (a0 : Array Value) (hw : ∀ d ∈ tables_1, d.before a0 Z = true) (a1 : Addr) (a2 : Addr) (al : Addr) (x1 x2 x3 : Int64) (k1 k2 k3 nn : Nat) (g : Nat → Int64) (h0 : Heap) (E_a1 : Exa Z h0 a1 "com/example/occupancy/occupancy/cell/internal/BitCells") (F_words_a1 : Fld Z h0 a1 "com/example/occupancy/occupancy/cell/internal/BitCells" "words" "[J" (.ref al)) (n1a : a1 ≠ al) (V_al : Ar Z h0 al .long nn (fun j => .long (g j))) (V_a2 : Ar Z h0 a2 .long 3 (lf [.long x1, .long x2, .long x3])) (n2a : a2 ≠ al) (hk1 : (((x1.toUInt64 >>> ((6 : Int32) &&& 0x3f).toInt64.toUInt64).toInt64).toInt32).toInt = (k1 : Int)) (hn1 : k1 < nn) (hk2 : (((x2.toUInt64 >>> ((6 : Int32) &&& 0x3f).toInt64.toUInt64).toInt64).toInt32).toInt = (k2 : Int)) (hn2 : k2 < nn) (hk3 : (((x3.toUInt64 >>> ((6 : Int32) &&& 0x3f).toInt64.toUInt64).toInt64).toInt32).toInt = (k3 : Int)) (hn3 : k3 < nn) :
    Met l Z (⟨"com/example/occupancy/occupancy/cell/internal/BitCells", "setAll", "([JI)V"⟩ : MethodName) prog_2_method_13_code 7 none [] ({ frames := 0, cells := 0, slots := 0, locals := 0 } : Room) #[(.ref a1), (.ref a2), (.int (2 : Int32))] [al] h0 (fun v h => v = none ∧ Ar Z h al .long nn (fun j => .long ((own_o (own_o g k1 ((1 : Int64) <<< (x1.toInt32 &&& 0x3f).toInt64)) k2 ((1 : Int64) <<< (x2.toInt32 &&& 0x3f).toInt64)) j))) := by
  refine Met.mk pn_a2 (ef_a2 a1 a2 al x1 x2 x3) ?_
  intro C T hs0 O
  show Go C [al] (fun v h => v = none ∧ Ar Z h al .long nn (fun j => .long ((own_o (own_o g k1 ((1 : Int64) <<< (x1.toInt32 &&& 0x3f).toInt64)) k2 ((1 : Int64) <<< (x2.toInt32 &&& 0x3f).toInt64)) j))) 0 0 (T.setTop (mkF C.m 0 #[.val (.ref a1), .val (.ref a2), .val (.int (2 : Int32)), .unset, .unset, .unset, .unset] []))
  refine Jvm.OwnW.aloadN O da2_0 rfl rfl (q := 1) rfl ?_
  refine Jvm.OwnW.getF O da2_1 (host := "") (Or.inl (hw _ (List.mem_of_getElem? (i := 41) rfl))) Via.refl F_words_a1 (q := 4) rfl ?_
  intro T1 O1
  refine Jvm.OwnW.astoreN O1 da2_4 rfl (L' := #[.val (.ref a1), .val (.ref a2), .val (.int (2 : Int32)), .val (.ref al), .unset, .unset, .unset]) rfl (q := 5) rfl ?_
  refine Jvm.OwnW.iconst O1 da2_5 (r := (0 : Int32)) rfl (q := 6) rfl ?_
  refine Jvm.OwnW.istore O1 da2_6 (L' := #[.val (.ref a1), .val (.ref a2), .val (.int (2 : Int32)), .val (.ref al), .val (.int (0 : Int32)), .unset, .unset]) rfl (q := 8) rfl ?_
  refine Jvm.OwnW.iload O1 da2_8 rfl (q := 10) rfl ?_
  refine Jvm.OwnW.iloadN O1 da2_10 rfl (q := 11) rfl ?_
  refine Jvm.OwnW.icmpNo O1 da2_11 (tlt (show (0 : Int32) < (2 : Int32) from (by decide))).2.1 (q := 14) rfl ?_
  refine Jvm.OwnW.aloadN O1 da2_14 rfl rfl (q := 15) rfl ?_
  refine Jvm.OwnW.iload O1 da2_15 rfl (q := 17) rfl ?_
  refine Jvm.OwnW.lalA O1 da2_17 V_a2 (i := 0) rfl (by decide) (v := (.long x1)) rfl (q := 18) rfl ?_
  refine Jvm.OwnW.lstore O1 da2_18 (L' := #[.val (.ref a1), .val (.ref a2), .val (.int (2 : Int32)), .val (.ref al), .val (.int (0 : Int32)), .val (.long x1), .second]) rfl (q := 20) rfl ?_
  refine Jvm.OwnW.aloadN O1 da2_20 rfl rfl (q := 21) rfl ?_
  refine Jvm.OwnW.lload O1 da2_21 rfl (q := 23) rfl ?_
  refine Jvm.OwnW.bipush O1 da2_23 (r := (6 : Int32)) rfl (q := 25) rfl ?_
  refine Jvm.OwnW.lushr O1 da2_25 rfl (q := 26) rfl ?_
  refine Jvm.OwnW.l2i O1 da2_26 rfl (q := 27) rfl ?_
  refine Jvm.OwnW.dup2 O1 da2_27 rfl rfl (q := 28) rfl ?_
  refine Jvm.OwnW.lalA O1 da2_28 V_al (i := k1) hk1 hn1 (v := (.long (g k1))) rfl (q := 29) rfl ?_
  refine Jvm.OwnW.lconst O1 da2_29 (r := (1 : Int64)) rfl (q := 30) rfl ?_
  refine Jvm.OwnW.lload O1 da2_30 rfl (q := 32) rfl ?_
  refine Jvm.OwnW.l2i O1 da2_32 rfl (q := 33) rfl ?_
  refine Jvm.OwnW.lshl O1 da2_33 rfl (q := 34) rfl ?_
  refine Jvm.OwnW.lor O1 da2_34 rfl (q := 35) rfl ?_
  refine Jvm.OwnW.lasA O1 da2_35 V_al (i := k1) hk1 hn1 (Or.inl (List.mem_cons_self ..)) (q := 36) rfl ?_
  intro T2 h2 O2 W2
  have V_al := V_al.set W2 hn1
  have E_a1 := E_a1.wr W2
  have F_words_a1 := F_words_a1.other W2 (Or.inl n1a)
  have V_a2 := V_a2.other W2 n2a
  have V_al : Ar Z h2 al .long nn (fun j => .long ((own_o g k1 ((1 : Int64) <<< (x1.toInt32 &&& 0x3f).toInt64)) j)) := V_al.congr fun j _ => own_oV _ _ _ j
  refine Jvm.OwnW.iinc O2 da2_36 rfl (L' := #[.val (.ref a1), .val (.ref a2), .val (.int (2 : Int32)), .val (.ref al), .val (.int (1 : Int32)), .val (.long x1), .second]) rfl (q := 39) rfl ?_
  refine Jvm.OwnW.goto O2 da2_39 (by decide) (q := 8) rfl ?_
  refine Jvm.OwnW.iload O2 da2_8 rfl (q := 10) rfl ?_
  refine Jvm.OwnW.iloadN O2 da2_10 rfl (q := 11) rfl ?_
  refine Jvm.OwnW.icmpNo O2 da2_11 (tlt (show (1 : Int32) < (2 : Int32) from (by decide))).2.1 (q := 14) rfl ?_
  refine Jvm.OwnW.aloadN O2 da2_14 rfl rfl (q := 15) rfl ?_
  refine Jvm.OwnW.iload O2 da2_15 rfl (q := 17) rfl ?_
  refine Jvm.OwnW.lalA O2 da2_17 V_a2 (i := 1) rfl (by decide) (v := (.long x2)) rfl (q := 18) rfl ?_
  refine Jvm.OwnW.lstore O2 da2_18 (L' := #[.val (.ref a1), .val (.ref a2), .val (.int (2 : Int32)), .val (.ref al), .val (.int (1 : Int32)), .val (.long x2), .second]) rfl (q := 20) rfl ?_
  refine Jvm.OwnW.aloadN O2 da2_20 rfl rfl (q := 21) rfl ?_
  refine Jvm.OwnW.lload O2 da2_21 rfl (q := 23) rfl ?_
  refine Jvm.OwnW.bipush O2 da2_23 (r := (6 : Int32)) rfl (q := 25) rfl ?_
  refine Jvm.OwnW.lushr O2 da2_25 rfl (q := 26) rfl ?_
  refine Jvm.OwnW.l2i O2 da2_26 rfl (q := 27) rfl ?_
  refine Jvm.OwnW.dup2 O2 da2_27 rfl rfl (q := 28) rfl ?_
  refine Jvm.OwnW.lalA O2 da2_28 V_al (i := k2) hk2 hn2 (v := (.long ((own_o g k1 ((1 : Int64) <<< (x1.toInt32 &&& 0x3f).toInt64)) k2))) rfl (q := 29) rfl ?_
  refine Jvm.OwnW.lconst O2 da2_29 (r := (1 : Int64)) rfl (q := 30) rfl ?_
  refine Jvm.OwnW.lload O2 da2_30 rfl (q := 32) rfl ?_
  refine Jvm.OwnW.l2i O2 da2_32 rfl (q := 33) rfl ?_
  refine Jvm.OwnW.lshl O2 da2_33 rfl (q := 34) rfl ?_
  refine Jvm.OwnW.lor O2 da2_34 rfl (q := 35) rfl ?_
  refine Jvm.OwnW.lasA O2 da2_35 V_al (i := k2) hk2 hn2 (Or.inl (List.mem_cons_self ..)) (q := 36) rfl ?_
  intro T3 h3 O3 W3
  have V_al := V_al.set W3 hn2
  have E_a1 := E_a1.wr W3
  have F_words_a1 := F_words_a1.other W3 (Or.inl n1a)
  have V_a2 := V_a2.other W3 n2a
  have V_al : Ar Z h3 al .long nn (fun j => .long ((own_o (own_o g k1 ((1 : Int64) <<< (x1.toInt32 &&& 0x3f).toInt64)) k2 ((1 : Int64) <<< (x2.toInt32 &&& 0x3f).toInt64)) j)) := V_al.congr fun j _ => own_oV _ _ _ j
  refine Jvm.OwnW.iinc O3 da2_36 rfl (L' := #[.val (.ref a1), .val (.ref a2), .val (.int (2 : Int32)), .val (.ref al), .val (.int (2 : Int32)), .val (.long x2), .second]) rfl (q := 39) rfl ?_
  refine Jvm.OwnW.goto O3 da2_39 (by decide) (q := 8) rfl ?_
  refine Jvm.OwnW.iload O3 da2_8 rfl (q := 10) rfl ?_
  refine Jvm.OwnW.iloadN O3 da2_10 rfl (q := 11) rfl ?_
  refine Jvm.OwnW.icmpYes O3 da2_11 (flt (show ¬ ((2 : Int32) < (2 : Int32)) from (by decide))).2.1 (by decide) (q := 42) rfl ?_
  exact Jvm.OwnW.ret0 O3 da2_42 (by decide) (by decide) ⟨rfl, V_al⟩
theorem da3_0 : decode prog_2_method_13_code 0 = .ok (.aload_n 0, 1) := by decide +kernel
theorem da3_1 : decode prog_2_method_13_code 1 = .ok (.getfield 26, 3) := by decide +kernel
theorem da3_4 : decode prog_2_method_13_code 4 = .ok (.astore_n 3, 1) := by decide +kernel
theorem da3_5 : decode prog_2_method_13_code 5 = .ok (.iconst 0, 1) := by decide +kernel
theorem da3_6 : decode prog_2_method_13_code 6 = .ok (.istore 4, 2) := by decide +kernel
theorem da3_8 : decode prog_2_method_13_code 8 = .ok (.iload 4, 2) := by decide +kernel
theorem da3_10 : decode prog_2_method_13_code 10 = .ok (.iload_n 2, 1) := by decide +kernel
theorem da3_11 : decode prog_2_method_13_code 11 = .ok (.if_icmp .ge 31, 3) := by decide +kernel
theorem da3_14 : decode prog_2_method_13_code 14 = .ok (.aload_n 1, 1) := by decide +kernel
theorem da3_15 : decode prog_2_method_13_code 15 = .ok (.iload 4, 2) := by decide +kernel
theorem da3_17 : decode prog_2_method_13_code 17 = .ok (.laload, 1) := by decide +kernel
theorem da3_18 : decode prog_2_method_13_code 18 = .ok (.lstore 5, 2) := by decide +kernel
theorem da3_20 : decode prog_2_method_13_code 20 = .ok (.aload_n 3, 1) := by decide +kernel
theorem da3_21 : decode prog_2_method_13_code 21 = .ok (.lload 5, 2) := by decide +kernel
theorem da3_23 : decode prog_2_method_13_code 23 = .ok (.bipush 6, 2) := by decide +kernel
theorem da3_25 : decode prog_2_method_13_code 25 = .ok (.lushr, 1) := by decide +kernel
theorem da3_26 : decode prog_2_method_13_code 26 = .ok (.l2i, 1) := by decide +kernel
theorem da3_27 : decode prog_2_method_13_code 27 = .ok (.dup2, 1) := by decide +kernel
theorem da3_28 : decode prog_2_method_13_code 28 = .ok (.laload, 1) := by decide +kernel
theorem da3_29 : decode prog_2_method_13_code 29 = .ok (.lconst 1, 1) := by decide +kernel
theorem da3_30 : decode prog_2_method_13_code 30 = .ok (.lload 5, 2) := by decide +kernel
theorem da3_32 : decode prog_2_method_13_code 32 = .ok (.l2i, 1) := by decide +kernel
theorem da3_33 : decode prog_2_method_13_code 33 = .ok (.lshl, 1) := by decide +kernel
theorem da3_34 : decode prog_2_method_13_code 34 = .ok (.lor, 1) := by decide +kernel
theorem da3_35 : decode prog_2_method_13_code 35 = .ok (.lastore, 1) := by decide +kernel
theorem da3_36 : decode prog_2_method_13_code 36 = .ok (.iinc 4 1, 3) := by decide +kernel
theorem da3_39 : decode prog_2_method_13_code 39 = .ok (.goto (-31), 3) := by decide +kernel
theorem da3_42 : decode prog_2_method_13_code 42 = .ok (.return_, 1) := by decide +kernel
theorem ef_a3 (a1 : Addr) (a2 : Addr) (al : Addr) (x1 x2 x3 : Int64) (m : MethodId) : entryFrame m #[(.ref a1), (.ref a2), (.int (3 : Int32))] 7 = mkF m 0 #[.val (.ref a1), .val (.ref a2), .val (.int (3 : Int32)), .unset, .unset, .unset, .unset] [] := by first | (simp [entryFrame, mkF, argsToLocals, Value.category, maxLocals]; done) | rfl
theorem pn_a3 : plainFor (⟨"com/example/occupancy/occupancy/cell/internal/BitCells", "setAll", "([JI)V"⟩ : MethodName) = true := by first | exact plainFor_of_name (by first | (simp [plainName, overriddenIn]; done) | decide +kernel) | decide +kernel
set_option maxRecDepth 65536 in
set_option maxHeartbeats 40000000 in
theorem rm_a3 (l : Launch) (Z : State) (a0 : Array Value) (hw : ∀ d ∈ tables_1, d.before a0 Z = true) (a1 : Addr) (a2 : Addr) (al : Addr) (x1 x2 x3 : Int64) (k1 k2 k3 nn : Nat) (g : Nat → Int64) (h0 : Heap) (E_a1 : Exa Z h0 a1 "com/example/occupancy/occupancy/cell/internal/BitCells") (F_words_a1 : Fld Z h0 a1 "com/example/occupancy/occupancy/cell/internal/BitCells" "words" "[J" (.ref al)) (n1a : a1 ≠ al) (V_al : Ar Z h0 al .long nn (fun j => .long (g j))) (V_a2 : Ar Z h0 a2 .long 3 (lf [.long x1, .long x2, .long x3])) (n2a : a2 ≠ al) (hk1 : (((x1.toUInt64 >>> ((6 : Int32) &&& 0x3f).toInt64.toUInt64).toInt64).toInt32).toInt = (k1 : Int)) (hn1 : k1 < nn) (hk2 : (((x2.toUInt64 >>> ((6 : Int32) &&& 0x3f).toInt64.toUInt64).toInt64).toInt32).toInt = (k2 : Int)) (hn2 : k2 < nn) (hk3 : (((x3.toUInt64 >>> ((6 : Int32) &&& 0x3f).toInt64.toUInt64).toInt64).toInt32).toInt = (k3 : Int)) (hn3 : k3 < nn) :
    Met l Z (⟨"com/example/occupancy/occupancy/cell/internal/BitCells", "setAll", "([JI)V"⟩ : MethodName) prog_2_method_13_code 7 none [] ({ frames := 0, cells := 0, slots := 0, locals := 0 } : Room) #[(.ref a1), (.ref a2), (.int (3 : Int32))] [al] h0 (fun v h => v = none ∧ Ar Z h al .long nn (fun j => .long ((own_o (own_o (own_o g k1 ((1 : Int64) <<< (x1.toInt32 &&& 0x3f).toInt64)) k2 ((1 : Int64) <<< (x2.toInt32 &&& 0x3f).toInt64)) k3 ((1 : Int64) <<< (x3.toInt32 &&& 0x3f).toInt64)) j))) := by
  refine Met.mk pn_a3 (ef_a3 a1 a2 al x1 x2 x3) ?_
  intro C T hs0 O
  show Go C [al] (fun v h => v = none ∧ Ar Z h al .long nn (fun j => .long ((own_o (own_o (own_o g k1 ((1 : Int64) <<< (x1.toInt32 &&& 0x3f).toInt64)) k2 ((1 : Int64) <<< (x2.toInt32 &&& 0x3f).toInt64)) k3 ((1 : Int64) <<< (x3.toInt32 &&& 0x3f).toInt64)) j))) 0 0 (T.setTop (mkF C.m 0 #[.val (.ref a1), .val (.ref a2), .val (.int (3 : Int32)), .unset, .unset, .unset, .unset] []))
  refine Jvm.OwnW.aloadN O da3_0 rfl rfl (q := 1) rfl ?_
  refine Jvm.OwnW.getF O da3_1 (host := "") (Or.inl (hw _ (List.mem_of_getElem? (i := 41) rfl))) Via.refl F_words_a1 (q := 4) rfl ?_
  intro T1 O1
  refine Jvm.OwnW.astoreN O1 da3_4 rfl (L' := #[.val (.ref a1), .val (.ref a2), .val (.int (3 : Int32)), .val (.ref al), .unset, .unset, .unset]) rfl (q := 5) rfl ?_
  refine Jvm.OwnW.iconst O1 da3_5 (r := (0 : Int32)) rfl (q := 6) rfl ?_
  refine Jvm.OwnW.istore O1 da3_6 (L' := #[.val (.ref a1), .val (.ref a2), .val (.int (3 : Int32)), .val (.ref al), .val (.int (0 : Int32)), .unset, .unset]) rfl (q := 8) rfl ?_
  refine Jvm.OwnW.iload O1 da3_8 rfl (q := 10) rfl ?_
  refine Jvm.OwnW.iloadN O1 da3_10 rfl (q := 11) rfl ?_
  refine Jvm.OwnW.icmpNo O1 da3_11 (tlt (show (0 : Int32) < (3 : Int32) from (by decide))).2.1 (q := 14) rfl ?_
  refine Jvm.OwnW.aloadN O1 da3_14 rfl rfl (q := 15) rfl ?_
  refine Jvm.OwnW.iload O1 da3_15 rfl (q := 17) rfl ?_
  refine Jvm.OwnW.lalA O1 da3_17 V_a2 (i := 0) rfl (by decide) (v := (.long x1)) rfl (q := 18) rfl ?_
  refine Jvm.OwnW.lstore O1 da3_18 (L' := #[.val (.ref a1), .val (.ref a2), .val (.int (3 : Int32)), .val (.ref al), .val (.int (0 : Int32)), .val (.long x1), .second]) rfl (q := 20) rfl ?_
  refine Jvm.OwnW.aloadN O1 da3_20 rfl rfl (q := 21) rfl ?_
  refine Jvm.OwnW.lload O1 da3_21 rfl (q := 23) rfl ?_
  refine Jvm.OwnW.bipush O1 da3_23 (r := (6 : Int32)) rfl (q := 25) rfl ?_
  refine Jvm.OwnW.lushr O1 da3_25 rfl (q := 26) rfl ?_
  refine Jvm.OwnW.l2i O1 da3_26 rfl (q := 27) rfl ?_
  refine Jvm.OwnW.dup2 O1 da3_27 rfl rfl (q := 28) rfl ?_
  refine Jvm.OwnW.lalA O1 da3_28 V_al (i := k1) hk1 hn1 (v := (.long (g k1))) rfl (q := 29) rfl ?_
  refine Jvm.OwnW.lconst O1 da3_29 (r := (1 : Int64)) rfl (q := 30) rfl ?_
  refine Jvm.OwnW.lload O1 da3_30 rfl (q := 32) rfl ?_
  refine Jvm.OwnW.l2i O1 da3_32 rfl (q := 33) rfl ?_
  refine Jvm.OwnW.lshl O1 da3_33 rfl (q := 34) rfl ?_
  refine Jvm.OwnW.lor O1 da3_34 rfl (q := 35) rfl ?_
  refine Jvm.OwnW.lasA O1 da3_35 V_al (i := k1) hk1 hn1 (Or.inl (List.mem_cons_self ..)) (q := 36) rfl ?_
  intro T2 h2 O2 W2
  have V_al := V_al.set W2 hn1
  have E_a1 := E_a1.wr W2
  have F_words_a1 := F_words_a1.other W2 (Or.inl n1a)
  have V_a2 := V_a2.other W2 n2a
  have V_al : Ar Z h2 al .long nn (fun j => .long ((own_o g k1 ((1 : Int64) <<< (x1.toInt32 &&& 0x3f).toInt64)) j)) := V_al.congr fun j _ => own_oV _ _ _ j
  refine Jvm.OwnW.iinc O2 da3_36 rfl (L' := #[.val (.ref a1), .val (.ref a2), .val (.int (3 : Int32)), .val (.ref al), .val (.int (1 : Int32)), .val (.long x1), .second]) rfl (q := 39) rfl ?_
  refine Jvm.OwnW.goto O2 da3_39 (by decide) (q := 8) rfl ?_
  refine Jvm.OwnW.iload O2 da3_8 rfl (q := 10) rfl ?_
  refine Jvm.OwnW.iloadN O2 da3_10 rfl (q := 11) rfl ?_
  refine Jvm.OwnW.icmpNo O2 da3_11 (tlt (show (1 : Int32) < (3 : Int32) from (by decide))).2.1 (q := 14) rfl ?_
  refine Jvm.OwnW.aloadN O2 da3_14 rfl rfl (q := 15) rfl ?_
  refine Jvm.OwnW.iload O2 da3_15 rfl (q := 17) rfl ?_
  refine Jvm.OwnW.lalA O2 da3_17 V_a2 (i := 1) rfl (by decide) (v := (.long x2)) rfl (q := 18) rfl ?_
  refine Jvm.OwnW.lstore O2 da3_18 (L' := #[.val (.ref a1), .val (.ref a2), .val (.int (3 : Int32)), .val (.ref al), .val (.int (1 : Int32)), .val (.long x2), .second]) rfl (q := 20) rfl ?_
  refine Jvm.OwnW.aloadN O2 da3_20 rfl rfl (q := 21) rfl ?_
  refine Jvm.OwnW.lload O2 da3_21 rfl (q := 23) rfl ?_
  refine Jvm.OwnW.bipush O2 da3_23 (r := (6 : Int32)) rfl (q := 25) rfl ?_
  refine Jvm.OwnW.lushr O2 da3_25 rfl (q := 26) rfl ?_
  refine Jvm.OwnW.l2i O2 da3_26 rfl (q := 27) rfl ?_
  refine Jvm.OwnW.dup2 O2 da3_27 rfl rfl (q := 28) rfl ?_
  refine Jvm.OwnW.lalA O2 da3_28 V_al (i := k2) hk2 hn2 (v := (.long ((own_o g k1 ((1 : Int64) <<< (x1.toInt32 &&& 0x3f).toInt64)) k2))) rfl (q := 29) rfl ?_
  refine Jvm.OwnW.lconst O2 da3_29 (r := (1 : Int64)) rfl (q := 30) rfl ?_
  refine Jvm.OwnW.lload O2 da3_30 rfl (q := 32) rfl ?_
  refine Jvm.OwnW.l2i O2 da3_32 rfl (q := 33) rfl ?_
  refine Jvm.OwnW.lshl O2 da3_33 rfl (q := 34) rfl ?_
  refine Jvm.OwnW.lor O2 da3_34 rfl (q := 35) rfl ?_
  refine Jvm.OwnW.lasA O2 da3_35 V_al (i := k2) hk2 hn2 (Or.inl (List.mem_cons_self ..)) (q := 36) rfl ?_
  intro T3 h3 O3 W3
  have V_al := V_al.set W3 hn2
  have E_a1 := E_a1.wr W3
  have F_words_a1 := F_words_a1.other W3 (Or.inl n1a)
  have V_a2 := V_a2.other W3 n2a
  have V_al : Ar Z h3 al .long nn (fun j => .long ((own_o (own_o g k1 ((1 : Int64) <<< (x1.toInt32 &&& 0x3f).toInt64)) k2 ((1 : Int64) <<< (x2.toInt32 &&& 0x3f).toInt64)) j)) := V_al.congr fun j _ => own_oV _ _ _ j
  refine Jvm.OwnW.iinc O3 da3_36 rfl (L' := #[.val (.ref a1), .val (.ref a2), .val (.int (3 : Int32)), .val (.ref al), .val (.int (2 : Int32)), .val (.long x2), .second]) rfl (q := 39) rfl ?_
  refine Jvm.OwnW.goto O3 da3_39 (by decide) (q := 8) rfl ?_
  refine Jvm.OwnW.iload O3 da3_8 rfl (q := 10) rfl ?_
  refine Jvm.OwnW.iloadN O3 da3_10 rfl (q := 11) rfl ?_
  refine Jvm.OwnW.icmpNo O3 da3_11 (tlt (show (2 : Int32) < (3 : Int32) from (by decide))).2.1 (q := 14) rfl ?_
  refine Jvm.OwnW.aloadN O3 da3_14 rfl rfl (q := 15) rfl ?_
  refine Jvm.OwnW.iload O3 da3_15 rfl (q := 17) rfl ?_
  refine Jvm.OwnW.lalA O3 da3_17 V_a2 (i := 2) rfl (by decide) (v := (.long x3)) rfl (q := 18) rfl ?_
  refine Jvm.OwnW.lstore O3 da3_18 (L' := #[.val (.ref a1), .val (.ref a2), .val (.int (3 : Int32)), .val (.ref al), .val (.int (2 : Int32)), .val (.long x3), .second]) rfl (q := 20) rfl ?_
  refine Jvm.OwnW.aloadN O3 da3_20 rfl rfl (q := 21) rfl ?_
  refine Jvm.OwnW.lload O3 da3_21 rfl (q := 23) rfl ?_
  refine Jvm.OwnW.bipush O3 da3_23 (r := (6 : Int32)) rfl (q := 25) rfl ?_
  refine Jvm.OwnW.lushr O3 da3_25 rfl (q := 26) rfl ?_
  refine Jvm.OwnW.l2i O3 da3_26 rfl (q := 27) rfl ?_
  refine Jvm.OwnW.dup2 O3 da3_27 rfl rfl (q := 28) rfl ?_
  refine Jvm.OwnW.lalA O3 da3_28 V_al (i := k3) hk3 hn3 (v := (.long ((own_o (own_o g k1 ((1 : Int64) <<< (x1.toInt32 &&& 0x3f).toInt64)) k2 ((1 : Int64) <<< (x2.toInt32 &&& 0x3f).toInt64)) k3))) rfl (q := 29) rfl ?_
  refine Jvm.OwnW.lconst O3 da3_29 (r := (1 : Int64)) rfl (q := 30) rfl ?_
  refine Jvm.OwnW.lload O3 da3_30 rfl (q := 32) rfl ?_
  refine Jvm.OwnW.l2i O3 da3_32 rfl (q := 33) rfl ?_
  refine Jvm.OwnW.lshl O3 da3_33 rfl (q := 34) rfl ?_
  refine Jvm.OwnW.lor O3 da3_34 rfl (q := 35) rfl ?_
  refine Jvm.OwnW.lasA O3 da3_35 V_al (i := k3) hk3 hn3 (Or.inl (List.mem_cons_self ..)) (q := 36) rfl ?_
  intro T4 h4 O4 W4
  have V_al := V_al.set W4 hn3
  have E_a1 := E_a1.wr W4
  have F_words_a1 := F_words_a1.other W4 (Or.inl n1a)
  have V_a2 := V_a2.other W4 n2a
  have V_al : Ar Z h4 al .long nn (fun j => .long ((own_o (own_o (own_o g k1 ((1 : Int64) <<< (x1.toInt32 &&& 0x3f).toInt64)) k2 ((1 : Int64) <<< (x2.toInt32 &&& 0x3f).toInt64)) k3 ((1 : Int64) <<< (x3.toInt32 &&& 0x3f).toInt64)) j)) := V_al.congr fun j _ => own_oV _ _ _ j
  refine Jvm.OwnW.iinc O4 da3_36 rfl (L' := #[.val (.ref a1), .val (.ref a2), .val (.int (3 : Int32)), .val (.ref al), .val (.int (3 : Int32)), .val (.long x3), .second]) rfl (q := 39) rfl ?_
  refine Jvm.OwnW.goto O4 da3_39 (by decide) (q := 8) rfl ?_
  refine Jvm.OwnW.iload O4 da3_8 rfl (q := 10) rfl ?_
  refine Jvm.OwnW.iloadN O4 da3_10 rfl (q := 11) rfl ?_
  refine Jvm.OwnW.icmpYes O4 da3_11 (flt (show ¬ ((3 : Int32) < (3 : Int32)) from (by decide))).2.1 (by decide) (q := 42) rfl ?_
  exact Jvm.OwnW.ret0 O4 da3_42 (by decide) (by decide) ⟨rfl, V_al⟩
theorem dn_0 : decode prog_2_method_5_code 0 = .ok (.aload_n 0, 1) := by decide +kernel
theorem dn_1 : decode prog_2_method_5_code 1 = .ok (.getfield 26, 3) := by decide +kernel
theorem dn_4 : decode prog_2_method_5_code 4 = .ok (.arraylength, 1) := by decide +kernel
theorem dn_5 : decode prog_2_method_5_code 5 = .ok (.i2l, 1) := by decide +kernel
theorem dn_6 : decode prog_2_method_5_code 6 = .ok (.lreturn, 1) := by decide +kernel
theorem ef_n (a1 : Addr) (al : Addr) (zn : Int32) (m : MethodId) : entryFrame m #[(.ref a1)] 1 = mkF m 0 #[.val (.ref a1)] [] := by first | (simp [entryFrame, mkF, argsToLocals, Value.category, maxLocals]; done) | rfl
theorem pn_n : plainFor (⟨"com/example/occupancy/occupancy/cell/internal/BitCells", "wordCount", "()J"⟩ : MethodName) = true := by first | exact plainFor_of_name (by first | (simp [plainName, overriddenIn]; done) | decide +kernel) | decide +kernel
set_option maxRecDepth 65536 in
set_option maxHeartbeats 40000000 in
theorem rm_n (l : Launch) (Z : State) (a0 : Array Value) (hw : ∀ d ∈ tables_1, d.before a0 Z = true) (a1 : Addr) (al : Addr) (zn : Int32) (nn : Nat) (f : Nat → Value) (h0 : Heap) (E_a1 : Exa Z h0 a1 "com/example/occupancy/occupancy/cell/internal/BitCells") (F_words_a1 : Fld Z h0 a1 "com/example/occupancy/occupancy/cell/internal/BitCells" "words" "[J" (.ref al)) (V_al : Ar Z h0 al .long nn f) (hzn : zn.toInt = (nn : Int)) :
    Met l Z (⟨"com/example/occupancy/occupancy/cell/internal/BitCells", "wordCount", "()J"⟩ : MethodName) prog_2_method_5_code 1 (some .long) [] ({ frames := 0, cells := 0, slots := 0, locals := 0 } : Room) #[(.ref a1)] [] h0 (fun v h => v = some (.long zn.toInt64)) := by
  refine Met.mk pn_n (ef_n a1 al zn) ?_
  intro C T hs0 O
  show Go C [] (fun v h => v = some (.long zn.toInt64)) 0 0 (T.setTop (mkF C.m 0 #[.val (.ref a1)] []))
  refine Jvm.OwnW.aloadN O dn_0 rfl rfl (q := 1) rfl ?_
  refine Jvm.OwnW.getF O dn_1 (host := "") (Or.inl (hw _ (List.mem_of_getElem? (i := 41) rfl))) Via.refl F_words_a1 (q := 4) rfl ?_
  intro T1 O1
  refine Jvm.OwnW.lenA O1 dn_4 V_al (z := zn) hzn (q := 5) rfl ?_
  refine Jvm.OwnW.i2l O1 dn_5 rfl (q := 6) rfl ?_
  exact Jvm.OwnW.retL O1 dn_6 rfl (by decide) (by decide) rfl
theorem do_0 : decode prog_2_method_12_code 0 = .ok (.aload_n 0, 1) := by decide +kernel
theorem do_1 : decode prog_2_method_12_code 1 = .ok (.getfield 26, 3) := by decide +kernel
theorem do_4 : decode prog_2_method_12_code 4 = .ok (.iload_n 1, 1) := by decide +kernel
theorem do_5 : decode prog_2_method_12_code 5 = .ok (.laload, 1) := by decide +kernel
theorem do_6 : decode prog_2_method_12_code 6 = .ok (.lreturn, 1) := by decide +kernel
theorem ef_o (a1 : Addr) (p1 : Int32) (al : Addr) (m : MethodId) : entryFrame m #[(.ref a1), (.int p1)] 2 = mkF m 0 #[.val (.ref a1), .val (.int p1)] [] := by first | (simp [entryFrame, mkF, argsToLocals, Value.category, maxLocals]; done) | rfl
theorem pn_o : plainFor (⟨"com/example/occupancy/occupancy/cell/internal/BitCells", "word", "(I)J"⟩ : MethodName) = true := by first | exact plainFor_of_name (by first | (simp [plainName, overriddenIn]; done) | decide +kernel) | decide +kernel
set_option maxRecDepth 65536 in
set_option maxHeartbeats 40000000 in
theorem rm_o (l : Launch) (Z : State) (a0 : Array Value) (hw : ∀ d ∈ tables_1, d.before a0 Z = true) (a1 : Addr) (p1 : Int32) (al : Addr) (k nn : Nat) (g : Nat → Int64) (h0 : Heap) (E_a1 : Exa Z h0 a1 "com/example/occupancy/occupancy/cell/internal/BitCells") (F_words_a1 : Fld Z h0 a1 "com/example/occupancy/occupancy/cell/internal/BitCells" "words" "[J" (.ref al)) (V_al : Ar Z h0 al .long nn (fun j => .long (g j))) (hk : p1.toInt = (k : Int)) (hkn : k < nn) :
    Met l Z (⟨"com/example/occupancy/occupancy/cell/internal/BitCells", "word", "(I)J"⟩ : MethodName) prog_2_method_12_code 2 (some .long) [] ({ frames := 0, cells := 0, slots := 0, locals := 0 } : Room) #[(.ref a1), (.int p1)] [] h0 (fun v h => v = some (.long (g k))) := by
  refine Met.mk pn_o (ef_o a1 p1 al) ?_
  intro C T hs0 O
  show Go C [] (fun v h => v = some (.long (g k))) 0 0 (T.setTop (mkF C.m 0 #[.val (.ref a1), .val (.int p1)] []))
  refine Jvm.OwnW.aloadN O do_0 rfl rfl (q := 1) rfl ?_
  refine Jvm.OwnW.getF O do_1 (host := "") (Or.inl (hw _ (List.mem_of_getElem? (i := 41) rfl))) Via.refl F_words_a1 (q := 4) rfl ?_
  intro T1 O1
  refine Jvm.OwnW.iloadN O1 do_4 rfl (q := 5) rfl ?_
  refine Jvm.OwnW.lalA O1 do_5 V_al (i := k) hk hkn (v := (.long (g k))) rfl (q := 6) rfl ?_
  exact Jvm.OwnW.retL O1 do_6 rfl (by decide) (by decide) rfl
theorem db_0 : decode method_3_code 0 = .ok (.iload_n 3, 1) := by decide +kernel
theorem db_1 : decode method_3_code 1 = .ok (.ifCond .ne 5, 3) := by decide +kernel
theorem db_4 : decode method_3_code 4 = .ok (.lconst 0, 1) := by decide +kernel
theorem db_5 : decode method_3_code 5 = .ok (.lreturn, 1) := by decide +kernel
theorem db_6 : decode method_3_code 6 = .ok (.lload_n 0, 1) := by decide +kernel
theorem db_7 : decode method_3_code 7 = .ok (.ldc2_w 9, 3) := by decide +kernel
theorem db_10 : decode method_3_code 10 = .ok (.ldiv, 1) := by decide +kernel
theorem db_11 : decode method_3_code 11 = .ok (.iload_n 2, 1) := by decide +kernel
theorem db_12 : decode method_3_code 12 = .ok (.i2l, 1) := by decide +kernel
theorem db_13 : decode method_3_code 13 = .ok (.lcmp, 1) := by decide +kernel
theorem db_14 : decode method_3_code 14 = .ok (.ifCond .eq 5, 3) := by decide +kernel
theorem db_17 : decode method_3_code 17 = .ok (.lconst 0, 1) := by decide +kernel
theorem db_18 : decode method_3_code 18 = .ok (.lreturn, 1) := by decide +kernel
theorem db_19 : decode method_3_code 19 = .ok (.lconst 1, 1) := by decide +kernel
theorem db_20 : decode method_3_code 20 = .ok (.lload_n 0, 1) := by decide +kernel
theorem db_21 : decode method_3_code 21 = .ok (.ldc2_w 9, 3) := by decide +kernel
theorem db_24 : decode method_3_code 24 = .ok (.lrem, 1) := by decide +kernel
theorem db_25 : decode method_3_code 25 = .ok (.l2i, 1) := by decide +kernel
theorem db_26 : decode method_3_code 26 = .ok (.lshl, 1) := by decide +kernel
theorem db_27 : decode method_3_code 27 = .ok (.lreturn, 1) := by decide +kernel
def fn_b (p0 : Int64) (p2 : Int32) (p3 : Int32) : Int64 := (if p3 = (0 : Int32) then (0 : Int64) else (if (p0 / (64 : Int64)) = p2.toInt64 then ((1 : Int64) <<< ((p0 % (64 : Int64)).toInt32 &&& 0x3f).toInt64) else (0 : Int64)))
theorem ef_b (p0 : Int64) (p2 : Int32) (p3 : Int32) (m : MethodId) : entryFrame m #[(.long p0), (.int p2), (.int p3)] 4 = mkF m 0 #[.val (.long p0), .second, .val (.int p2), .val (.int p3)] [] := by first | (simp [entryFrame, mkF, argsToLocals, Value.category, maxLocals]; done) | rfl
theorem pn_b : plainFor (⟨"com/example/occupancy/occupancy/cell/internal/BitCellsSetAllPinLaw", "bitFor", "(JIZ)J"⟩ : MethodName) = true := by first | exact plainFor_of_name (by first | (simp [plainName, overriddenIn]; done) | decide +kernel) | decide +kernel
set_option maxRecDepth 65536 in
set_option maxHeartbeats 40000000 in
theorem rm_b (l : Launch) (Z : State) (a0 : Array Value) (hw : ∀ d ∈ tables_1, d.before a0 Z = true) (p0 : Int64) (p2 : Int32) (p3 : Int32) (h0 : Heap)  :
    Met l Z (⟨"com/example/occupancy/occupancy/cell/internal/BitCellsSetAllPinLaw", "bitFor", "(JIZ)J"⟩ : MethodName) method_3_code 4 (some .long) [] ({ frames := 0, cells := 0, slots := 0, locals := 0 } : Room) #[(.long p0), (.int p2), (.int p3)] [] h0 (fun v h => v = some (Value.long (fn_b p0 p2 p3))) := by
  refine Met.mk pn_b (ef_b p0 p2 p3) ?_
  intro C T hs0 O
  show Go C [] (fun v h => v = some (Value.long (fn_b p0 p2 p3))) 0 0 (T.setTop (mkF C.m 0 #[.val (.long p0), .second, .val (.int p2), .val (.int p3)] []))
  refine Jvm.OwnW.iloadN O db_0 rfl (q := 1) rfl ?_
  by_cases hc1 : p3 = (0 : Int32)
  · refine Jvm.OwnW.ifNo O db_1 (teq0 hc1).2 (q := 4) rfl ?_
    refine Jvm.OwnW.lconst O db_4 (r := (0 : Int64)) rfl (q := 5) rfl ?_
    exact Jvm.OwnW.retL O db_5 rfl (by decide) (by decide) (by show some (Value.long (0 : Int64)) = some (Value.long (fn_b p0 p2 p3)); rw [fn_b, if_pos hc1])
  · refine Jvm.OwnW.ifYes O db_1 (feq0 hc1).2 (by decide) (q := 6) rfl ?_
    refine Jvm.OwnW.lloadN O db_6 rfl (q := 7) rfl ?_
    refine Jvm.OwnW.ldcL O db_7 (hw _ (List.mem_of_getElem? (i := 1) rfl)) (q := 10) rfl ?_
    refine Jvm.OwnW.ldiv O db_10 (by decide) rfl (q := 11) rfl ?_
    refine Jvm.OwnW.iloadN O db_11 rfl (q := 12) rfl ?_
    refine Jvm.OwnW.i2l O db_12 rfl (q := 13) rfl ?_
    refine Jvm.OwnW.lcmp O db_13 rfl (q := 14) rfl ?_
    by_cases hc14 : (p0 / (64 : Int64)) = p2.toInt64
    · refine Jvm.OwnW.ifYes O db_14 (teqL hc14).1 (by decide) (q := 19) rfl ?_
      refine Jvm.OwnW.lconst O db_19 (r := (1 : Int64)) rfl (q := 20) rfl ?_
      refine Jvm.OwnW.lloadN O db_20 rfl (q := 21) rfl ?_
      refine Jvm.OwnW.ldcL O db_21 (hw _ (List.mem_of_getElem? (i := 1) rfl)) (q := 24) rfl ?_
      refine Jvm.OwnW.lrem O db_24 (by decide) rfl (q := 25) rfl ?_
      refine Jvm.OwnW.l2i O db_25 rfl (q := 26) rfl ?_
      refine Jvm.OwnW.lshl O db_26 rfl (q := 27) rfl ?_
      exact Jvm.OwnW.retL O db_27 rfl (by decide) (by decide) (by show some (Value.long ((1 : Int64) <<< ((p0 % (64 : Int64)).toInt32 &&& 0x3f).toInt64)) = some (Value.long (fn_b p0 p2 p3)); rw [fn_b, if_neg hc1, if_pos hc14])
    · refine Jvm.OwnW.ifNo O db_14 (feqL hc14).1 (q := 17) rfl ?_
      refine Jvm.OwnW.lconst O db_17 (r := (0 : Int64)) rfl (q := 18) rfl ?_
      exact Jvm.OwnW.retL O db_18 rfl (by decide) (by decide) (by show some (Value.long (0 : Int64)) = some (Value.long (fn_b p0 p2 p3)); rw [fn_b, if_neg hc1, if_neg hc14])
theorem pd_5 : parseMethodDescriptor "(JIZ)J" = some ⟨[.long, .int, .boolean], some .long⟩ := by decide +kernel
theorem de_0 : decode method_4_code 0 = .ok (.lconst 0, 1) := by decide +kernel
theorem de_1 : decode method_4_code 1 = .ok (.lstore 10, 2) := by decide +kernel
theorem de_3 : decode method_4_code 3 = .ok (.iload_n 0, 1) := by decide +kernel
theorem de_4 : decode method_4_code 4 = .ok (.ifCond .ne 6, 3) := by decide +kernel
theorem de_7 : decode method_4_code 7 = .ok (.lload_n 1, 1) := by decide +kernel
theorem de_8 : decode method_4_code 8 = .ok (.lstore 10, 2) := by decide +kernel
theorem de_10 : decode method_4_code 10 = .ok (.lload 10, 2) := by decide +kernel
theorem de_12 : decode method_4_code 12 = .ok (.lload_n 3, 1) := by decide +kernel
theorem de_13 : decode method_4_code 13 = .ok (.iload_n 0, 1) := by decide +kernel
theorem de_14 : decode method_4_code 14 = .ok (.iload 9, 2) := by decide +kernel
theorem de_16 : decode method_4_code 16 = .ok (.ifCond .le 7, 3) := by decide +kernel
theorem de_19 : decode method_4_code 19 = .ok (.iconst 1, 1) := by decide +kernel
theorem de_20 : decode method_4_code 20 = .ok (.goto 4, 3) := by decide +kernel
theorem de_23 : decode method_4_code 23 = .ok (.iconst 0, 1) := by decide +kernel
theorem de_24 : decode method_4_code 24 = .ok (.invokestatic 40, 3) := by decide +kernel
theorem de_27 : decode method_4_code 27 = .ok (.lor, 1) := by decide +kernel
theorem de_28 : decode method_4_code 28 = .ok (.lstore 10, 2) := by decide +kernel
theorem de_30 : decode method_4_code 30 = .ok (.lload 10, 2) := by decide +kernel
theorem de_32 : decode method_4_code 32 = .ok (.lload 5, 2) := by decide +kernel
theorem de_34 : decode method_4_code 34 = .ok (.iload_n 0, 1) := by decide +kernel
theorem de_35 : decode method_4_code 35 = .ok (.iload 9, 2) := by decide +kernel
theorem de_37 : decode method_4_code 37 = .ok (.iconst 1, 1) := by decide +kernel
theorem de_38 : decode method_4_code 38 = .ok (.if_icmp .le 7, 3) := by decide +kernel
theorem de_41 : decode method_4_code 41 = .ok (.iconst 1, 1) := by decide +kernel
theorem de_42 : decode method_4_code 42 = .ok (.goto 4, 3) := by decide +kernel
theorem de_45 : decode method_4_code 45 = .ok (.iconst 0, 1) := by decide +kernel
theorem de_46 : decode method_4_code 46 = .ok (.invokestatic 40, 3) := by decide +kernel
theorem de_49 : decode method_4_code 49 = .ok (.lor, 1) := by decide +kernel
theorem de_50 : decode method_4_code 50 = .ok (.lstore 10, 2) := by decide +kernel
theorem de_52 : decode method_4_code 52 = .ok (.lload 10, 2) := by decide +kernel
theorem de_54 : decode method_4_code 54 = .ok (.lload 7, 2) := by decide +kernel
theorem de_56 : decode method_4_code 56 = .ok (.iload_n 0, 1) := by decide +kernel
theorem de_57 : decode method_4_code 57 = .ok (.iload 9, 2) := by decide +kernel
theorem de_59 : decode method_4_code 59 = .ok (.iconst 2, 1) := by decide +kernel
theorem de_60 : decode method_4_code 60 = .ok (.if_icmp .le 7, 3) := by decide +kernel
theorem de_63 : decode method_4_code 63 = .ok (.iconst 1, 1) := by decide +kernel
theorem de_64 : decode method_4_code 64 = .ok (.goto 4, 3) := by decide +kernel
theorem de_67 : decode method_4_code 67 = .ok (.iconst 0, 1) := by decide +kernel
theorem de_68 : decode method_4_code 68 = .ok (.invokestatic 40, 3) := by decide +kernel
theorem de_71 : decode method_4_code 71 = .ok (.lor, 1) := by decide +kernel
theorem de_72 : decode method_4_code 72 = .ok (.lstore 10, 2) := by decide +kernel
theorem de_74 : decode method_4_code 74 = .ok (.lload 10, 2) := by decide +kernel
theorem de_76 : decode method_4_code 76 = .ok (.lreturn, 1) := by decide +kernel
def fn_e (p0 : Int32) (p1 : Int64) (p3 : Int64) (p5 : Int64) (p7 : Int64) (p9 : Int32) : Int64 := (if p0 = (0 : Int32) then (if (0 : Int32) < p9 then (if (1 : Int32) < p9 then (if (2 : Int32) < p9 then (((p1 ||| (fn_b p3 p0 (1 : Int32))) ||| (fn_b p5 p0 (1 : Int32))) ||| (fn_b p7 p0 (1 : Int32))) else (((p1 ||| (fn_b p3 p0 (1 : Int32))) ||| (fn_b p5 p0 (1 : Int32))) ||| (fn_b p7 p0 (0 : Int32)))) else (if (2 : Int32) < p9 then (((p1 ||| (fn_b p3 p0 (1 : Int32))) ||| (fn_b p5 p0 (0 : Int32))) ||| (fn_b p7 p0 (1 : Int32))) else (((p1 ||| (fn_b p3 p0 (1 : Int32))) ||| (fn_b p5 p0 (0 : Int32))) ||| (fn_b p7 p0 (0 : Int32))))) else (if (1 : Int32) < p9 then (if (2 : Int32) < p9 then (((p1 ||| (fn_b p3 p0 (0 : Int32))) ||| (fn_b p5 p0 (1 : Int32))) ||| (fn_b p7 p0 (1 : Int32))) else (((p1 ||| (fn_b p3 p0 (0 : Int32))) ||| (fn_b p5 p0 (1 : Int32))) ||| (fn_b p7 p0 (0 : Int32)))) else (if (2 : Int32) < p9 then (((p1 ||| (fn_b p3 p0 (0 : Int32))) ||| (fn_b p5 p0 (0 : Int32))) ||| (fn_b p7 p0 (1 : Int32))) else (((p1 ||| (fn_b p3 p0 (0 : Int32))) ||| (fn_b p5 p0 (0 : Int32))) ||| (fn_b p7 p0 (0 : Int32)))))) else (if (0 : Int32) < p9 then (if (1 : Int32) < p9 then (if (2 : Int32) < p9 then ((((0 : Int64) ||| (fn_b p3 p0 (1 : Int32))) ||| (fn_b p5 p0 (1 : Int32))) ||| (fn_b p7 p0 (1 : Int32))) else ((((0 : Int64) ||| (fn_b p3 p0 (1 : Int32))) ||| (fn_b p5 p0 (1 : Int32))) ||| (fn_b p7 p0 (0 : Int32)))) else (if (2 : Int32) < p9 then ((((0 : Int64) ||| (fn_b p3 p0 (1 : Int32))) ||| (fn_b p5 p0 (0 : Int32))) ||| (fn_b p7 p0 (1 : Int32))) else ((((0 : Int64) ||| (fn_b p3 p0 (1 : Int32))) ||| (fn_b p5 p0 (0 : Int32))) ||| (fn_b p7 p0 (0 : Int32))))) else (if (1 : Int32) < p9 then (if (2 : Int32) < p9 then ((((0 : Int64) ||| (fn_b p3 p0 (0 : Int32))) ||| (fn_b p5 p0 (1 : Int32))) ||| (fn_b p7 p0 (1 : Int32))) else ((((0 : Int64) ||| (fn_b p3 p0 (0 : Int32))) ||| (fn_b p5 p0 (1 : Int32))) ||| (fn_b p7 p0 (0 : Int32)))) else (if (2 : Int32) < p9 then ((((0 : Int64) ||| (fn_b p3 p0 (0 : Int32))) ||| (fn_b p5 p0 (0 : Int32))) ||| (fn_b p7 p0 (1 : Int32))) else ((((0 : Int64) ||| (fn_b p3 p0 (0 : Int32))) ||| (fn_b p5 p0 (0 : Int32))) ||| (fn_b p7 p0 (0 : Int32)))))))
theorem ef_e (p0 : Int32) (p1 : Int64) (p3 : Int64) (p5 : Int64) (p7 : Int64) (p9 : Int32) (m : MethodId) : entryFrame m #[(.int p0), (.long p1), (.long p3), (.long p5), (.long p7), (.int p9)] 12 = mkF m 0 #[.val (.int p0), .val (.long p1), .second, .val (.long p3), .second, .val (.long p5), .second, .val (.long p7), .second, .val (.int p9), .unset, .unset] [] := by first | (simp [entryFrame, mkF, argsToLocals, Value.category, maxLocals]; done) | rfl
theorem pn_e : plainFor (⟨"com/example/occupancy/occupancy/cell/internal/BitCellsSetAllPinLaw", "expected", "(IJJJJI)J"⟩ : MethodName) = true := by first | exact plainFor_of_name (by first | (simp [plainName, overriddenIn]; done) | decide +kernel) | decide +kernel
set_option maxRecDepth 65536 in
set_option maxHeartbeats 40000000 in
theorem rm_e (l : Launch) (Z : State) (a0 : Array Value) (hw : ∀ d ∈ tables_1, d.before a0 Z = true) (p0 : Int32) (p1 : Int64) (p3 : Int64) (p5 : Int64) (p7 : Int64) (p9 : Int32) (h0 : Heap)  :
    Met l Z (⟨"com/example/occupancy/occupancy/cell/internal/BitCellsSetAllPinLaw", "expected", "(IJJJJI)J"⟩ : MethodName) method_4_code 12 (some .long) [] ({ frames := 1, cells := 0, slots := 0, locals := 17 } : Room) #[(.int p0), (.long p1), (.long p3), (.long p5), (.long p7), (.int p9)] [] h0 (fun v h => v = some (Value.long (fn_e p0 p1 p3 p5 p7 p9))) := by
  refine Met.mk pn_e (ef_e p0 p1 p3 p5 p7 p9) ?_
  intro C T hs0 O
  show Go C [] (fun v h => v = some (Value.long (fn_e p0 p1 p3 p5 p7 p9))) 0 0 (T.setTop (mkF C.m 0 #[.val (.int p0), .val (.long p1), .second, .val (.long p3), .second, .val (.long p5), .second, .val (.long p7), .second, .val (.int p9), .unset, .unset] []))
  refine Jvm.OwnW.lconst O de_0 (r := (0 : Int64)) rfl (q := 1) rfl ?_
  refine Jvm.OwnW.lstore O de_1 (L' := #[.val (.int p0), .val (.long p1), .second, .val (.long p3), .second, .val (.long p5), .second, .val (.long p7), .second, .val (.int p9), .val (.long (0 : Int64)), .second]) rfl (q := 3) rfl ?_
  refine Jvm.OwnW.iloadN O de_3 rfl (q := 4) rfl ?_
  by_cases hc4 : p0 = (0 : Int32)
  · refine Jvm.OwnW.ifNo O de_4 (teq0 hc4).2 (q := 7) rfl ?_
    refine Jvm.OwnW.lloadN O de_7 rfl (q := 8) rfl ?_
    refine Jvm.OwnW.lstore O de_8 (L' := #[.val (.int p0), .val (.long p1), .second, .val (.long p3), .second, .val (.long p5), .second, .val (.long p7), .second, .val (.int p9), .val (.long p1), .second]) rfl (q := 10) rfl ?_
    refine Jvm.OwnW.lload O de_10 rfl (q := 12) rfl ?_
    refine Jvm.OwnW.lloadN O de_12 rfl (q := 13) rfl ?_
    refine Jvm.OwnW.iloadN O de_13 rfl (q := 14) rfl ?_
    refine Jvm.OwnW.iload O de_14 rfl (q := 16) rfl ?_
    by_cases hc16 : (0 : Int32) < p9
    · refine Jvm.OwnW.ifNo O de_16 (tgt0 hc16).2 (q := 19) rfl ?_
      refine Jvm.OwnW.iconst O de_19 (r := (1 : Int32)) rfl (q := 20) rfl ?_
      refine Jvm.OwnW.goto O de_20 (by decide) (q := 24) rfl ?_
      refine Jvm.OwnW.callS0 O (y := (⟨"com/example/occupancy/occupancy/cell/internal/BitCellsSetAllPinLaw", "bitFor", "(JIZ)J"⟩ : MethodName)) (argsL := [(.long p3), (.int p0), (.int (1 : Int32))]) (rest := [(.long p1)]) de_24 (hw _ (List.mem_of_getElem? (i := 67) rfl)) (hw _ (List.mem_of_getElem? (i := 68) rfl)) (hw _ (List.mem_of_getElem? (i := 65) rfl)) (hw _ (List.mem_of_getElem? (i := 69) rfl)) (by decide) (rm_b l Z a0 hw p3 p0 (1 : Int32) h0) rfl pd_5 rfl (hst := rfl) (W := 2) (Nat.le_of_eq rfl) (by decide) (by decide) (c2 := 0) (s2 := 0) rfl rfl (by decide) (by decide) rfl rfl (q := 27) rfl ?_
      intro v1 T1 O1 q1
      obtain rfl := q1
      show Go C _ _ _ _ (T1.setTop (mkF C.m 27 #[.val (.int p0), .val (.long p1), .second, .val (.long p3), .second, .val (.long p5), .second, .val (.long p7), .second, .val (.int p9), .val (.long p1), .second] [(.long (fn_b p3 p0 (1 : Int32))), (.long p1)]))
      refine Jvm.OwnW.lor O1 de_27 rfl (q := 28) rfl ?_
      refine Jvm.OwnW.lstore O1 de_28 (L' := #[.val (.int p0), .val (.long p1), .second, .val (.long p3), .second, .val (.long p5), .second, .val (.long p7), .second, .val (.int p9), .val (.long (p1 ||| (fn_b p3 p0 (1 : Int32)))), .second]) rfl (q := 30) rfl ?_
      refine Jvm.OwnW.lload O1 de_30 rfl (q := 32) rfl ?_
      refine Jvm.OwnW.lload O1 de_32 rfl (q := 34) rfl ?_
      refine Jvm.OwnW.iloadN O1 de_34 rfl (q := 35) rfl ?_
      refine Jvm.OwnW.iload O1 de_35 rfl (q := 37) rfl ?_
      refine Jvm.OwnW.iconst O1 de_37 (r := (1 : Int32)) rfl (q := 38) rfl ?_
      by_cases hc38 : (1 : Int32) < p9
      · refine Jvm.OwnW.icmpNo O1 de_38 (tlt hc38).2.2.2 (q := 41) rfl ?_
        refine Jvm.OwnW.iconst O1 de_41 (r := (1 : Int32)) rfl (q := 42) rfl ?_
        refine Jvm.OwnW.goto O1 de_42 (by decide) (q := 46) rfl ?_
        refine Jvm.OwnW.callS0 O1 (y := (⟨"com/example/occupancy/occupancy/cell/internal/BitCellsSetAllPinLaw", "bitFor", "(JIZ)J"⟩ : MethodName)) (argsL := [(.long p5), (.int p0), (.int (1 : Int32))]) (rest := [(.long (p1 ||| (fn_b p3 p0 (1 : Int32))))]) de_46 (hw _ (List.mem_of_getElem? (i := 67) rfl)) (hw _ (List.mem_of_getElem? (i := 68) rfl)) (hw _ (List.mem_of_getElem? (i := 65) rfl)) (hw _ (List.mem_of_getElem? (i := 69) rfl)) (by decide) (rm_b l Z a0 hw p5 p0 (1 : Int32) h0) rfl pd_5 rfl (hst := rfl) (W := 2) (Nat.le_of_eq rfl) (by decide) (by decide) (c2 := 0) (s2 := 0) rfl rfl (by decide) (by decide) rfl rfl (q := 49) rfl ?_
        intro v2 T2 O2 q2
        obtain rfl := q2
        show Go C _ _ _ _ (T2.setTop (mkF C.m 49 #[.val (.int p0), .val (.long p1), .second, .val (.long p3), .second, .val (.long p5), .second, .val (.long p7), .second, .val (.int p9), .val (.long (p1 ||| (fn_b p3 p0 (1 : Int32)))), .second] [(.long (fn_b p5 p0 (1 : Int32))), (.long (p1 ||| (fn_b p3 p0 (1 : Int32))))]))
        refine Jvm.OwnW.lor O2 de_49 rfl (q := 50) rfl ?_
        refine Jvm.OwnW.lstore O2 de_50 (L' := #[.val (.int p0), .val (.long p1), .second, .val (.long p3), .second, .val (.long p5), .second, .val (.long p7), .second, .val (.int p9), .val (.long ((p1 ||| (fn_b p3 p0 (1 : Int32))) ||| (fn_b p5 p0 (1 : Int32)))), .second]) rfl (q := 52) rfl ?_
        refine Jvm.OwnW.lload O2 de_52 rfl (q := 54) rfl ?_
        refine Jvm.OwnW.lload O2 de_54 rfl (q := 56) rfl ?_
        refine Jvm.OwnW.iloadN O2 de_56 rfl (q := 57) rfl ?_
        refine Jvm.OwnW.iload O2 de_57 rfl (q := 59) rfl ?_
        refine Jvm.OwnW.iconst O2 de_59 (r := (2 : Int32)) rfl (q := 60) rfl ?_
        by_cases hc60 : (2 : Int32) < p9
        · refine Jvm.OwnW.icmpNo O2 de_60 (tlt hc60).2.2.2 (q := 63) rfl ?_
          refine Jvm.OwnW.iconst O2 de_63 (r := (1 : Int32)) rfl (q := 64) rfl ?_
          refine Jvm.OwnW.goto O2 de_64 (by decide) (q := 68) rfl ?_
          refine Jvm.OwnW.callS0 O2 (y := (⟨"com/example/occupancy/occupancy/cell/internal/BitCellsSetAllPinLaw", "bitFor", "(JIZ)J"⟩ : MethodName)) (argsL := [(.long p7), (.int p0), (.int (1 : Int32))]) (rest := [(.long ((p1 ||| (fn_b p3 p0 (1 : Int32))) ||| (fn_b p5 p0 (1 : Int32))))]) de_68 (hw _ (List.mem_of_getElem? (i := 67) rfl)) (hw _ (List.mem_of_getElem? (i := 68) rfl)) (hw _ (List.mem_of_getElem? (i := 65) rfl)) (hw _ (List.mem_of_getElem? (i := 69) rfl)) (by decide) (rm_b l Z a0 hw p7 p0 (1 : Int32) h0) rfl pd_5 rfl (hst := rfl) (W := 2) (Nat.le_of_eq rfl) (by decide) (by decide) (c2 := 0) (s2 := 0) rfl rfl (by decide) (by decide) rfl rfl (q := 71) rfl ?_
          intro v3 T3 O3 q3
          obtain rfl := q3
          show Go C _ _ _ _ (T3.setTop (mkF C.m 71 #[.val (.int p0), .val (.long p1), .second, .val (.long p3), .second, .val (.long p5), .second, .val (.long p7), .second, .val (.int p9), .val (.long ((p1 ||| (fn_b p3 p0 (1 : Int32))) ||| (fn_b p5 p0 (1 : Int32)))), .second] [(.long (fn_b p7 p0 (1 : Int32))), (.long ((p1 ||| (fn_b p3 p0 (1 : Int32))) ||| (fn_b p5 p0 (1 : Int32))))]))
          refine Jvm.OwnW.lor O3 de_71 rfl (q := 72) rfl ?_
          refine Jvm.OwnW.lstore O3 de_72 (L' := #[.val (.int p0), .val (.long p1), .second, .val (.long p3), .second, .val (.long p5), .second, .val (.long p7), .second, .val (.int p9), .val (.long (((p1 ||| (fn_b p3 p0 (1 : Int32))) ||| (fn_b p5 p0 (1 : Int32))) ||| (fn_b p7 p0 (1 : Int32)))), .second]) rfl (q := 74) rfl ?_
          refine Jvm.OwnW.lload O3 de_74 rfl (q := 76) rfl ?_
          exact Jvm.OwnW.retL O3 de_76 rfl (by decide) (by decide) (by show some (Value.long (((p1 ||| (fn_b p3 p0 (1 : Int32))) ||| (fn_b p5 p0 (1 : Int32))) ||| (fn_b p7 p0 (1 : Int32)))) = some (Value.long (fn_e p0 p1 p3 p5 p7 p9)); rw [fn_e, if_pos hc4, if_pos hc16, if_pos hc38, if_pos hc60])
        · refine Jvm.OwnW.icmpYes O2 de_60 (flt hc60).2.2.2 (by decide) (q := 67) rfl ?_
          refine Jvm.OwnW.iconst O2 de_67 (r := (0 : Int32)) rfl (q := 68) rfl ?_
          refine Jvm.OwnW.callS0 O2 (y := (⟨"com/example/occupancy/occupancy/cell/internal/BitCellsSetAllPinLaw", "bitFor", "(JIZ)J"⟩ : MethodName)) (argsL := [(.long p7), (.int p0), (.int (0 : Int32))]) (rest := [(.long ((p1 ||| (fn_b p3 p0 (1 : Int32))) ||| (fn_b p5 p0 (1 : Int32))))]) de_68 (hw _ (List.mem_of_getElem? (i := 67) rfl)) (hw _ (List.mem_of_getElem? (i := 68) rfl)) (hw _ (List.mem_of_getElem? (i := 65) rfl)) (hw _ (List.mem_of_getElem? (i := 69) rfl)) (by decide) (rm_b l Z a0 hw p7 p0 (0 : Int32) h0) rfl pd_5 rfl (hst := rfl) (W := 2) (Nat.le_of_eq rfl) (by decide) (by decide) (c2 := 0) (s2 := 0) rfl rfl (by decide) (by decide) rfl rfl (q := 71) rfl ?_
          intro v4 T4 O4 q4
          obtain rfl := q4
          show Go C _ _ _ _ (T4.setTop (mkF C.m 71 #[.val (.int p0), .val (.long p1), .second, .val (.long p3), .second, .val (.long p5), .second, .val (.long p7), .second, .val (.int p9), .val (.long ((p1 ||| (fn_b p3 p0 (1 : Int32))) ||| (fn_b p5 p0 (1 : Int32)))), .second] [(.long (fn_b p7 p0 (0 : Int32))), (.long ((p1 ||| (fn_b p3 p0 (1 : Int32))) ||| (fn_b p5 p0 (1 : Int32))))]))
          refine Jvm.OwnW.lor O4 de_71 rfl (q := 72) rfl ?_
          refine Jvm.OwnW.lstore O4 de_72 (L' := #[.val (.int p0), .val (.long p1), .second, .val (.long p3), .second, .val (.long p5), .second, .val (.long p7), .second, .val (.int p9), .val (.long (((p1 ||| (fn_b p3 p0 (1 : Int32))) ||| (fn_b p5 p0 (1 : Int32))) ||| (fn_b p7 p0 (0 : Int32)))), .second]) rfl (q := 74) rfl ?_
          refine Jvm.OwnW.lload O4 de_74 rfl (q := 76) rfl ?_
          exact Jvm.OwnW.retL O4 de_76 rfl (by decide) (by decide) (by show some (Value.long (((p1 ||| (fn_b p3 p0 (1 : Int32))) ||| (fn_b p5 p0 (1 : Int32))) ||| (fn_b p7 p0 (0 : Int32)))) = some (Value.long (fn_e p0 p1 p3 p5 p7 p9)); rw [fn_e, if_pos hc4, if_pos hc16, if_pos hc38, if_neg hc60])
      · refine Jvm.OwnW.icmpYes O1 de_38 (flt hc38).2.2.2 (by decide) (q := 45) rfl ?_
        refine Jvm.OwnW.iconst O1 de_45 (r := (0 : Int32)) rfl (q := 46) rfl ?_
        refine Jvm.OwnW.callS0 O1 (y := (⟨"com/example/occupancy/occupancy/cell/internal/BitCellsSetAllPinLaw", "bitFor", "(JIZ)J"⟩ : MethodName)) (argsL := [(.long p5), (.int p0), (.int (0 : Int32))]) (rest := [(.long (p1 ||| (fn_b p3 p0 (1 : Int32))))]) de_46 (hw _ (List.mem_of_getElem? (i := 67) rfl)) (hw _ (List.mem_of_getElem? (i := 68) rfl)) (hw _ (List.mem_of_getElem? (i := 65) rfl)) (hw _ (List.mem_of_getElem? (i := 69) rfl)) (by decide) (rm_b l Z a0 hw p5 p0 (0 : Int32) h0) rfl pd_5 rfl (hst := rfl) (W := 2) (Nat.le_of_eq rfl) (by decide) (by decide) (c2 := 0) (s2 := 0) rfl rfl (by decide) (by decide) rfl rfl (q := 49) rfl ?_
        intro v5 T5 O5 q5
        obtain rfl := q5
        show Go C _ _ _ _ (T5.setTop (mkF C.m 49 #[.val (.int p0), .val (.long p1), .second, .val (.long p3), .second, .val (.long p5), .second, .val (.long p7), .second, .val (.int p9), .val (.long (p1 ||| (fn_b p3 p0 (1 : Int32)))), .second] [(.long (fn_b p5 p0 (0 : Int32))), (.long (p1 ||| (fn_b p3 p0 (1 : Int32))))]))
        refine Jvm.OwnW.lor O5 de_49 rfl (q := 50) rfl ?_
        refine Jvm.OwnW.lstore O5 de_50 (L' := #[.val (.int p0), .val (.long p1), .second, .val (.long p3), .second, .val (.long p5), .second, .val (.long p7), .second, .val (.int p9), .val (.long ((p1 ||| (fn_b p3 p0 (1 : Int32))) ||| (fn_b p5 p0 (0 : Int32)))), .second]) rfl (q := 52) rfl ?_
        refine Jvm.OwnW.lload O5 de_52 rfl (q := 54) rfl ?_
        refine Jvm.OwnW.lload O5 de_54 rfl (q := 56) rfl ?_
        refine Jvm.OwnW.iloadN O5 de_56 rfl (q := 57) rfl ?_
        refine Jvm.OwnW.iload O5 de_57 rfl (q := 59) rfl ?_
        refine Jvm.OwnW.iconst O5 de_59 (r := (2 : Int32)) rfl (q := 60) rfl ?_
        by_cases hc60 : (2 : Int32) < p9
        · refine Jvm.OwnW.icmpNo O5 de_60 (tlt hc60).2.2.2 (q := 63) rfl ?_
          refine Jvm.OwnW.iconst O5 de_63 (r := (1 : Int32)) rfl (q := 64) rfl ?_
          refine Jvm.OwnW.goto O5 de_64 (by decide) (q := 68) rfl ?_
          refine Jvm.OwnW.callS0 O5 (y := (⟨"com/example/occupancy/occupancy/cell/internal/BitCellsSetAllPinLaw", "bitFor", "(JIZ)J"⟩ : MethodName)) (argsL := [(.long p7), (.int p0), (.int (1 : Int32))]) (rest := [(.long ((p1 ||| (fn_b p3 p0 (1 : Int32))) ||| (fn_b p5 p0 (0 : Int32))))]) de_68 (hw _ (List.mem_of_getElem? (i := 67) rfl)) (hw _ (List.mem_of_getElem? (i := 68) rfl)) (hw _ (List.mem_of_getElem? (i := 65) rfl)) (hw _ (List.mem_of_getElem? (i := 69) rfl)) (by decide) (rm_b l Z a0 hw p7 p0 (1 : Int32) h0) rfl pd_5 rfl (hst := rfl) (W := 2) (Nat.le_of_eq rfl) (by decide) (by decide) (c2 := 0) (s2 := 0) rfl rfl (by decide) (by decide) rfl rfl (q := 71) rfl ?_
          intro v6 T6 O6 q6
          obtain rfl := q6
          show Go C _ _ _ _ (T6.setTop (mkF C.m 71 #[.val (.int p0), .val (.long p1), .second, .val (.long p3), .second, .val (.long p5), .second, .val (.long p7), .second, .val (.int p9), .val (.long ((p1 ||| (fn_b p3 p0 (1 : Int32))) ||| (fn_b p5 p0 (0 : Int32)))), .second] [(.long (fn_b p7 p0 (1 : Int32))), (.long ((p1 ||| (fn_b p3 p0 (1 : Int32))) ||| (fn_b p5 p0 (0 : Int32))))]))
          refine Jvm.OwnW.lor O6 de_71 rfl (q := 72) rfl ?_
          refine Jvm.OwnW.lstore O6 de_72 (L' := #[.val (.int p0), .val (.long p1), .second, .val (.long p3), .second, .val (.long p5), .second, .val (.long p7), .second, .val (.int p9), .val (.long (((p1 ||| (fn_b p3 p0 (1 : Int32))) ||| (fn_b p5 p0 (0 : Int32))) ||| (fn_b p7 p0 (1 : Int32)))), .second]) rfl (q := 74) rfl ?_
          refine Jvm.OwnW.lload O6 de_74 rfl (q := 76) rfl ?_
          exact Jvm.OwnW.retL O6 de_76 rfl (by decide) (by decide) (by show some (Value.long (((p1 ||| (fn_b p3 p0 (1 : Int32))) ||| (fn_b p5 p0 (0 : Int32))) ||| (fn_b p7 p0 (1 : Int32)))) = some (Value.long (fn_e p0 p1 p3 p5 p7 p9)); rw [fn_e, if_pos hc4, if_pos hc16, if_neg hc38, if_pos hc60])
        · refine Jvm.OwnW.icmpYes O5 de_60 (flt hc60).2.2.2 (by decide) (q := 67) rfl ?_
          refine Jvm.OwnW.iconst O5 de_67 (r := (0 : Int32)) rfl (q := 68) rfl ?_
          refine Jvm.OwnW.callS0 O5 (y := (⟨"com/example/occupancy/occupancy/cell/internal/BitCellsSetAllPinLaw", "bitFor", "(JIZ)J"⟩ : MethodName)) (argsL := [(.long p7), (.int p0), (.int (0 : Int32))]) (rest := [(.long ((p1 ||| (fn_b p3 p0 (1 : Int32))) ||| (fn_b p5 p0 (0 : Int32))))]) de_68 (hw _ (List.mem_of_getElem? (i := 67) rfl)) (hw _ (List.mem_of_getElem? (i := 68) rfl)) (hw _ (List.mem_of_getElem? (i := 65) rfl)) (hw _ (List.mem_of_getElem? (i := 69) rfl)) (by decide) (rm_b l Z a0 hw p7 p0 (0 : Int32) h0) rfl pd_5 rfl (hst := rfl) (W := 2) (Nat.le_of_eq rfl) (by decide) (by decide) (c2 := 0) (s2 := 0) rfl rfl (by decide) (by decide) rfl rfl (q := 71) rfl ?_
          intro v7 T7 O7 q7
          obtain rfl := q7
          show Go C _ _ _ _ (T7.setTop (mkF C.m 71 #[.val (.int p0), .val (.long p1), .second, .val (.long p3), .second, .val (.long p5), .second, .val (.long p7), .second, .val (.int p9), .val (.long ((p1 ||| (fn_b p3 p0 (1 : Int32))) ||| (fn_b p5 p0 (0 : Int32)))), .second] [(.long (fn_b p7 p0 (0 : Int32))), (.long ((p1 ||| (fn_b p3 p0 (1 : Int32))) ||| (fn_b p5 p0 (0 : Int32))))]))
          refine Jvm.OwnW.lor O7 de_71 rfl (q := 72) rfl ?_
          refine Jvm.OwnW.lstore O7 de_72 (L' := #[.val (.int p0), .val (.long p1), .second, .val (.long p3), .second, .val (.long p5), .second, .val (.long p7), .second, .val (.int p9), .val (.long (((p1 ||| (fn_b p3 p0 (1 : Int32))) ||| (fn_b p5 p0 (0 : Int32))) ||| (fn_b p7 p0 (0 : Int32)))), .second]) rfl (q := 74) rfl ?_
          refine Jvm.OwnW.lload O7 de_74 rfl (q := 76) rfl ?_
          exact Jvm.OwnW.retL O7 de_76 rfl (by decide) (by decide) (by show some (Value.long (((p1 ||| (fn_b p3 p0 (1 : Int32))) ||| (fn_b p5 p0 (0 : Int32))) ||| (fn_b p7 p0 (0 : Int32)))) = some (Value.long (fn_e p0 p1 p3 p5 p7 p9)); rw [fn_e, if_pos hc4, if_pos hc16, if_neg hc38, if_neg hc60])
    · refine Jvm.OwnW.ifYes O de_16 (fgt0 hc16).2 (by decide) (q := 23) rfl ?_
      refine Jvm.OwnW.iconst O de_23 (r := (0 : Int32)) rfl (q := 24) rfl ?_
      refine Jvm.OwnW.callS0 O (y := (⟨"com/example/occupancy/occupancy/cell/internal/BitCellsSetAllPinLaw", "bitFor", "(JIZ)J"⟩ : MethodName)) (argsL := [(.long p3), (.int p0), (.int (0 : Int32))]) (rest := [(.long p1)]) de_24 (hw _ (List.mem_of_getElem? (i := 67) rfl)) (hw _ (List.mem_of_getElem? (i := 68) rfl)) (hw _ (List.mem_of_getElem? (i := 65) rfl)) (hw _ (List.mem_of_getElem? (i := 69) rfl)) (by decide) (rm_b l Z a0 hw p3 p0 (0 : Int32) h0) rfl pd_5 rfl (hst := rfl) (W := 2) (Nat.le_of_eq rfl) (by decide) (by decide) (c2 := 0) (s2 := 0) rfl rfl (by decide) (by decide) rfl rfl (q := 27) rfl ?_
      intro v8 T8 O8 q8
      obtain rfl := q8
      show Go C _ _ _ _ (T8.setTop (mkF C.m 27 #[.val (.int p0), .val (.long p1), .second, .val (.long p3), .second, .val (.long p5), .second, .val (.long p7), .second, .val (.int p9), .val (.long p1), .second] [(.long (fn_b p3 p0 (0 : Int32))), (.long p1)]))
      refine Jvm.OwnW.lor O8 de_27 rfl (q := 28) rfl ?_
      refine Jvm.OwnW.lstore O8 de_28 (L' := #[.val (.int p0), .val (.long p1), .second, .val (.long p3), .second, .val (.long p5), .second, .val (.long p7), .second, .val (.int p9), .val (.long (p1 ||| (fn_b p3 p0 (0 : Int32)))), .second]) rfl (q := 30) rfl ?_
      refine Jvm.OwnW.lload O8 de_30 rfl (q := 32) rfl ?_
      refine Jvm.OwnW.lload O8 de_32 rfl (q := 34) rfl ?_
      refine Jvm.OwnW.iloadN O8 de_34 rfl (q := 35) rfl ?_
      refine Jvm.OwnW.iload O8 de_35 rfl (q := 37) rfl ?_
      refine Jvm.OwnW.iconst O8 de_37 (r := (1 : Int32)) rfl (q := 38) rfl ?_
      by_cases hc38 : (1 : Int32) < p9
      · refine Jvm.OwnW.icmpNo O8 de_38 (tlt hc38).2.2.2 (q := 41) rfl ?_
        refine Jvm.OwnW.iconst O8 de_41 (r := (1 : Int32)) rfl (q := 42) rfl ?_
        refine Jvm.OwnW.goto O8 de_42 (by decide) (q := 46) rfl ?_
        refine Jvm.OwnW.callS0 O8 (y := (⟨"com/example/occupancy/occupancy/cell/internal/BitCellsSetAllPinLaw", "bitFor", "(JIZ)J"⟩ : MethodName)) (argsL := [(.long p5), (.int p0), (.int (1 : Int32))]) (rest := [(.long (p1 ||| (fn_b p3 p0 (0 : Int32))))]) de_46 (hw _ (List.mem_of_getElem? (i := 67) rfl)) (hw _ (List.mem_of_getElem? (i := 68) rfl)) (hw _ (List.mem_of_getElem? (i := 65) rfl)) (hw _ (List.mem_of_getElem? (i := 69) rfl)) (by decide) (rm_b l Z a0 hw p5 p0 (1 : Int32) h0) rfl pd_5 rfl (hst := rfl) (W := 2) (Nat.le_of_eq rfl) (by decide) (by decide) (c2 := 0) (s2 := 0) rfl rfl (by decide) (by decide) rfl rfl (q := 49) rfl ?_
        intro v9 T9 O9 q9
        obtain rfl := q9
        show Go C _ _ _ _ (T9.setTop (mkF C.m 49 #[.val (.int p0), .val (.long p1), .second, .val (.long p3), .second, .val (.long p5), .second, .val (.long p7), .second, .val (.int p9), .val (.long (p1 ||| (fn_b p3 p0 (0 : Int32)))), .second] [(.long (fn_b p5 p0 (1 : Int32))), (.long (p1 ||| (fn_b p3 p0 (0 : Int32))))]))
        refine Jvm.OwnW.lor O9 de_49 rfl (q := 50) rfl ?_
        refine Jvm.OwnW.lstore O9 de_50 (L' := #[.val (.int p0), .val (.long p1), .second, .val (.long p3), .second, .val (.long p5), .second, .val (.long p7), .second, .val (.int p9), .val (.long ((p1 ||| (fn_b p3 p0 (0 : Int32))) ||| (fn_b p5 p0 (1 : Int32)))), .second]) rfl (q := 52) rfl ?_
        refine Jvm.OwnW.lload O9 de_52 rfl (q := 54) rfl ?_
        refine Jvm.OwnW.lload O9 de_54 rfl (q := 56) rfl ?_
        refine Jvm.OwnW.iloadN O9 de_56 rfl (q := 57) rfl ?_
        refine Jvm.OwnW.iload O9 de_57 rfl (q := 59) rfl ?_
        refine Jvm.OwnW.iconst O9 de_59 (r := (2 : Int32)) rfl (q := 60) rfl ?_
        by_cases hc60 : (2 : Int32) < p9
        · refine Jvm.OwnW.icmpNo O9 de_60 (tlt hc60).2.2.2 (q := 63) rfl ?_
          refine Jvm.OwnW.iconst O9 de_63 (r := (1 : Int32)) rfl (q := 64) rfl ?_
          refine Jvm.OwnW.goto O9 de_64 (by decide) (q := 68) rfl ?_
          refine Jvm.OwnW.callS0 O9 (y := (⟨"com/example/occupancy/occupancy/cell/internal/BitCellsSetAllPinLaw", "bitFor", "(JIZ)J"⟩ : MethodName)) (argsL := [(.long p7), (.int p0), (.int (1 : Int32))]) (rest := [(.long ((p1 ||| (fn_b p3 p0 (0 : Int32))) ||| (fn_b p5 p0 (1 : Int32))))]) de_68 (hw _ (List.mem_of_getElem? (i := 67) rfl)) (hw _ (List.mem_of_getElem? (i := 68) rfl)) (hw _ (List.mem_of_getElem? (i := 65) rfl)) (hw _ (List.mem_of_getElem? (i := 69) rfl)) (by decide) (rm_b l Z a0 hw p7 p0 (1 : Int32) h0) rfl pd_5 rfl (hst := rfl) (W := 2) (Nat.le_of_eq rfl) (by decide) (by decide) (c2 := 0) (s2 := 0) rfl rfl (by decide) (by decide) rfl rfl (q := 71) rfl ?_
          intro v10 T10 O10 q10
          obtain rfl := q10
          show Go C _ _ _ _ (T10.setTop (mkF C.m 71 #[.val (.int p0), .val (.long p1), .second, .val (.long p3), .second, .val (.long p5), .second, .val (.long p7), .second, .val (.int p9), .val (.long ((p1 ||| (fn_b p3 p0 (0 : Int32))) ||| (fn_b p5 p0 (1 : Int32)))), .second] [(.long (fn_b p7 p0 (1 : Int32))), (.long ((p1 ||| (fn_b p3 p0 (0 : Int32))) ||| (fn_b p5 p0 (1 : Int32))))]))
          refine Jvm.OwnW.lor O10 de_71 rfl (q := 72) rfl ?_
          refine Jvm.OwnW.lstore O10 de_72 (L' := #[.val (.int p0), .val (.long p1), .second, .val (.long p3), .second, .val (.long p5), .second, .val (.long p7), .second, .val (.int p9), .val (.long (((p1 ||| (fn_b p3 p0 (0 : Int32))) ||| (fn_b p5 p0 (1 : Int32))) ||| (fn_b p7 p0 (1 : Int32)))), .second]) rfl (q := 74) rfl ?_
          refine Jvm.OwnW.lload O10 de_74 rfl (q := 76) rfl ?_
          exact Jvm.OwnW.retL O10 de_76 rfl (by decide) (by decide) (by show some (Value.long (((p1 ||| (fn_b p3 p0 (0 : Int32))) ||| (fn_b p5 p0 (1 : Int32))) ||| (fn_b p7 p0 (1 : Int32)))) = some (Value.long (fn_e p0 p1 p3 p5 p7 p9)); rw [fn_e, if_pos hc4, if_neg hc16, if_pos hc38, if_pos hc60])
        · refine Jvm.OwnW.icmpYes O9 de_60 (flt hc60).2.2.2 (by decide) (q := 67) rfl ?_
          refine Jvm.OwnW.iconst O9 de_67 (r := (0 : Int32)) rfl (q := 68) rfl ?_
          refine Jvm.OwnW.callS0 O9 (y := (⟨"com/example/occupancy/occupancy/cell/internal/BitCellsSetAllPinLaw", "bitFor", "(JIZ)J"⟩ : MethodName)) (argsL := [(.long p7), (.int p0), (.int (0 : Int32))]) (rest := [(.long ((p1 ||| (fn_b p3 p0 (0 : Int32))) ||| (fn_b p5 p0 (1 : Int32))))]) de_68 (hw _ (List.mem_of_getElem? (i := 67) rfl)) (hw _ (List.mem_of_getElem? (i := 68) rfl)) (hw _ (List.mem_of_getElem? (i := 65) rfl)) (hw _ (List.mem_of_getElem? (i := 69) rfl)) (by decide) (rm_b l Z a0 hw p7 p0 (0 : Int32) h0) rfl pd_5 rfl (hst := rfl) (W := 2) (Nat.le_of_eq rfl) (by decide) (by decide) (c2 := 0) (s2 := 0) rfl rfl (by decide) (by decide) rfl rfl (q := 71) rfl ?_
          intro v11 T11 O11 q11
          obtain rfl := q11
          show Go C _ _ _ _ (T11.setTop (mkF C.m 71 #[.val (.int p0), .val (.long p1), .second, .val (.long p3), .second, .val (.long p5), .second, .val (.long p7), .second, .val (.int p9), .val (.long ((p1 ||| (fn_b p3 p0 (0 : Int32))) ||| (fn_b p5 p0 (1 : Int32)))), .second] [(.long (fn_b p7 p0 (0 : Int32))), (.long ((p1 ||| (fn_b p3 p0 (0 : Int32))) ||| (fn_b p5 p0 (1 : Int32))))]))
          refine Jvm.OwnW.lor O11 de_71 rfl (q := 72) rfl ?_
          refine Jvm.OwnW.lstore O11 de_72 (L' := #[.val (.int p0), .val (.long p1), .second, .val (.long p3), .second, .val (.long p5), .second, .val (.long p7), .second, .val (.int p9), .val (.long (((p1 ||| (fn_b p3 p0 (0 : Int32))) ||| (fn_b p5 p0 (1 : Int32))) ||| (fn_b p7 p0 (0 : Int32)))), .second]) rfl (q := 74) rfl ?_
          refine Jvm.OwnW.lload O11 de_74 rfl (q := 76) rfl ?_
          exact Jvm.OwnW.retL O11 de_76 rfl (by decide) (by decide) (by show some (Value.long (((p1 ||| (fn_b p3 p0 (0 : Int32))) ||| (fn_b p5 p0 (1 : Int32))) ||| (fn_b p7 p0 (0 : Int32)))) = some (Value.long (fn_e p0 p1 p3 p5 p7 p9)); rw [fn_e, if_pos hc4, if_neg hc16, if_pos hc38, if_neg hc60])
      · refine Jvm.OwnW.icmpYes O8 de_38 (flt hc38).2.2.2 (by decide) (q := 45) rfl ?_
        refine Jvm.OwnW.iconst O8 de_45 (r := (0 : Int32)) rfl (q := 46) rfl ?_
        refine Jvm.OwnW.callS0 O8 (y := (⟨"com/example/occupancy/occupancy/cell/internal/BitCellsSetAllPinLaw", "bitFor", "(JIZ)J"⟩ : MethodName)) (argsL := [(.long p5), (.int p0), (.int (0 : Int32))]) (rest := [(.long (p1 ||| (fn_b p3 p0 (0 : Int32))))]) de_46 (hw _ (List.mem_of_getElem? (i := 67) rfl)) (hw _ (List.mem_of_getElem? (i := 68) rfl)) (hw _ (List.mem_of_getElem? (i := 65) rfl)) (hw _ (List.mem_of_getElem? (i := 69) rfl)) (by decide) (rm_b l Z a0 hw p5 p0 (0 : Int32) h0) rfl pd_5 rfl (hst := rfl) (W := 2) (Nat.le_of_eq rfl) (by decide) (by decide) (c2 := 0) (s2 := 0) rfl rfl (by decide) (by decide) rfl rfl (q := 49) rfl ?_
        intro v12 T12 O12 q12
        obtain rfl := q12
        show Go C _ _ _ _ (T12.setTop (mkF C.m 49 #[.val (.int p0), .val (.long p1), .second, .val (.long p3), .second, .val (.long p5), .second, .val (.long p7), .second, .val (.int p9), .val (.long (p1 ||| (fn_b p3 p0 (0 : Int32)))), .second] [(.long (fn_b p5 p0 (0 : Int32))), (.long (p1 ||| (fn_b p3 p0 (0 : Int32))))]))
        refine Jvm.OwnW.lor O12 de_49 rfl (q := 50) rfl ?_
        refine Jvm.OwnW.lstore O12 de_50 (L' := #[.val (.int p0), .val (.long p1), .second, .val (.long p3), .second, .val (.long p5), .second, .val (.long p7), .second, .val (.int p9), .val (.long ((p1 ||| (fn_b p3 p0 (0 : Int32))) ||| (fn_b p5 p0 (0 : Int32)))), .second]) rfl (q := 52) rfl ?_
        refine Jvm.OwnW.lload O12 de_52 rfl (q := 54) rfl ?_
        refine Jvm.OwnW.lload O12 de_54 rfl (q := 56) rfl ?_
        refine Jvm.OwnW.iloadN O12 de_56 rfl (q := 57) rfl ?_
        refine Jvm.OwnW.iload O12 de_57 rfl (q := 59) rfl ?_
        refine Jvm.OwnW.iconst O12 de_59 (r := (2 : Int32)) rfl (q := 60) rfl ?_
        by_cases hc60 : (2 : Int32) < p9
        · refine Jvm.OwnW.icmpNo O12 de_60 (tlt hc60).2.2.2 (q := 63) rfl ?_
          refine Jvm.OwnW.iconst O12 de_63 (r := (1 : Int32)) rfl (q := 64) rfl ?_
          refine Jvm.OwnW.goto O12 de_64 (by decide) (q := 68) rfl ?_
          refine Jvm.OwnW.callS0 O12 (y := (⟨"com/example/occupancy/occupancy/cell/internal/BitCellsSetAllPinLaw", "bitFor", "(JIZ)J"⟩ : MethodName)) (argsL := [(.long p7), (.int p0), (.int (1 : Int32))]) (rest := [(.long ((p1 ||| (fn_b p3 p0 (0 : Int32))) ||| (fn_b p5 p0 (0 : Int32))))]) de_68 (hw _ (List.mem_of_getElem? (i := 67) rfl)) (hw _ (List.mem_of_getElem? (i := 68) rfl)) (hw _ (List.mem_of_getElem? (i := 65) rfl)) (hw _ (List.mem_of_getElem? (i := 69) rfl)) (by decide) (rm_b l Z a0 hw p7 p0 (1 : Int32) h0) rfl pd_5 rfl (hst := rfl) (W := 2) (Nat.le_of_eq rfl) (by decide) (by decide) (c2 := 0) (s2 := 0) rfl rfl (by decide) (by decide) rfl rfl (q := 71) rfl ?_
          intro v13 T13 O13 q13
          obtain rfl := q13
          show Go C _ _ _ _ (T13.setTop (mkF C.m 71 #[.val (.int p0), .val (.long p1), .second, .val (.long p3), .second, .val (.long p5), .second, .val (.long p7), .second, .val (.int p9), .val (.long ((p1 ||| (fn_b p3 p0 (0 : Int32))) ||| (fn_b p5 p0 (0 : Int32)))), .second] [(.long (fn_b p7 p0 (1 : Int32))), (.long ((p1 ||| (fn_b p3 p0 (0 : Int32))) ||| (fn_b p5 p0 (0 : Int32))))]))
          refine Jvm.OwnW.lor O13 de_71 rfl (q := 72) rfl ?_
          refine Jvm.OwnW.lstore O13 de_72 (L' := #[.val (.int p0), .val (.long p1), .second, .val (.long p3), .second, .val (.long p5), .second, .val (.long p7), .second, .val (.int p9), .val (.long (((p1 ||| (fn_b p3 p0 (0 : Int32))) ||| (fn_b p5 p0 (0 : Int32))) ||| (fn_b p7 p0 (1 : Int32)))), .second]) rfl (q := 74) rfl ?_
          refine Jvm.OwnW.lload O13 de_74 rfl (q := 76) rfl ?_
          exact Jvm.OwnW.retL O13 de_76 rfl (by decide) (by decide) (by show some (Value.long (((p1 ||| (fn_b p3 p0 (0 : Int32))) ||| (fn_b p5 p0 (0 : Int32))) ||| (fn_b p7 p0 (1 : Int32)))) = some (Value.long (fn_e p0 p1 p3 p5 p7 p9)); rw [fn_e, if_pos hc4, if_neg hc16, if_neg hc38, if_pos hc60])
        · refine Jvm.OwnW.icmpYes O12 de_60 (flt hc60).2.2.2 (by decide) (q := 67) rfl ?_
          refine Jvm.OwnW.iconst O12 de_67 (r := (0 : Int32)) rfl (q := 68) rfl ?_
          refine Jvm.OwnW.callS0 O12 (y := (⟨"com/example/occupancy/occupancy/cell/internal/BitCellsSetAllPinLaw", "bitFor", "(JIZ)J"⟩ : MethodName)) (argsL := [(.long p7), (.int p0), (.int (0 : Int32))]) (rest := [(.long ((p1 ||| (fn_b p3 p0 (0 : Int32))) ||| (fn_b p5 p0 (0 : Int32))))]) de_68 (hw _ (List.mem_of_getElem? (i := 67) rfl)) (hw _ (List.mem_of_getElem? (i := 68) rfl)) (hw _ (List.mem_of_getElem? (i := 65) rfl)) (hw _ (List.mem_of_getElem? (i := 69) rfl)) (by decide) (rm_b l Z a0 hw p7 p0 (0 : Int32) h0) rfl pd_5 rfl (hst := rfl) (W := 2) (Nat.le_of_eq rfl) (by decide) (by decide) (c2 := 0) (s2 := 0) rfl rfl (by decide) (by decide) rfl rfl (q := 71) rfl ?_
          intro v14 T14 O14 q14
          obtain rfl := q14
          show Go C _ _ _ _ (T14.setTop (mkF C.m 71 #[.val (.int p0), .val (.long p1), .second, .val (.long p3), .second, .val (.long p5), .second, .val (.long p7), .second, .val (.int p9), .val (.long ((p1 ||| (fn_b p3 p0 (0 : Int32))) ||| (fn_b p5 p0 (0 : Int32)))), .second] [(.long (fn_b p7 p0 (0 : Int32))), (.long ((p1 ||| (fn_b p3 p0 (0 : Int32))) ||| (fn_b p5 p0 (0 : Int32))))]))
          refine Jvm.OwnW.lor O14 de_71 rfl (q := 72) rfl ?_
          refine Jvm.OwnW.lstore O14 de_72 (L' := #[.val (.int p0), .val (.long p1), .second, .val (.long p3), .second, .val (.long p5), .second, .val (.long p7), .second, .val (.int p9), .val (.long (((p1 ||| (fn_b p3 p0 (0 : Int32))) ||| (fn_b p5 p0 (0 : Int32))) ||| (fn_b p7 p0 (0 : Int32)))), .second]) rfl (q := 74) rfl ?_
          refine Jvm.OwnW.lload O14 de_74 rfl (q := 76) rfl ?_
          exact Jvm.OwnW.retL O14 de_76 rfl (by decide) (by decide) (by show some (Value.long (((p1 ||| (fn_b p3 p0 (0 : Int32))) ||| (fn_b p5 p0 (0 : Int32))) ||| (fn_b p7 p0 (0 : Int32)))) = some (Value.long (fn_e p0 p1 p3 p5 p7 p9)); rw [fn_e, if_pos hc4, if_neg hc16, if_neg hc38, if_neg hc60])
  · refine Jvm.OwnW.ifYes O de_4 (feq0 hc4).2 (by decide) (q := 10) rfl ?_
    refine Jvm.OwnW.lload O de_10 rfl (q := 12) rfl ?_
    refine Jvm.OwnW.lloadN O de_12 rfl (q := 13) rfl ?_
    refine Jvm.OwnW.iloadN O de_13 rfl (q := 14) rfl ?_
    refine Jvm.OwnW.iload O de_14 rfl (q := 16) rfl ?_
    by_cases hc16 : (0 : Int32) < p9
    · refine Jvm.OwnW.ifNo O de_16 (tgt0 hc16).2 (q := 19) rfl ?_
      refine Jvm.OwnW.iconst O de_19 (r := (1 : Int32)) rfl (q := 20) rfl ?_
      refine Jvm.OwnW.goto O de_20 (by decide) (q := 24) rfl ?_
      refine Jvm.OwnW.callS0 O (y := (⟨"com/example/occupancy/occupancy/cell/internal/BitCellsSetAllPinLaw", "bitFor", "(JIZ)J"⟩ : MethodName)) (argsL := [(.long p3), (.int p0), (.int (1 : Int32))]) (rest := [(.long (0 : Int64))]) de_24 (hw _ (List.mem_of_getElem? (i := 67) rfl)) (hw _ (List.mem_of_getElem? (i := 68) rfl)) (hw _ (List.mem_of_getElem? (i := 65) rfl)) (hw _ (List.mem_of_getElem? (i := 69) rfl)) (by decide) (rm_b l Z a0 hw p3 p0 (1 : Int32) h0) rfl pd_5 rfl (hst := rfl) (W := 2) (Nat.le_of_eq rfl) (by decide) (by decide) (c2 := 0) (s2 := 0) rfl rfl (by decide) (by decide) rfl rfl (q := 27) rfl ?_
      intro v15 T15 O15 q15
      obtain rfl := q15
      show Go C _ _ _ _ (T15.setTop (mkF C.m 27 #[.val (.int p0), .val (.long p1), .second, .val (.long p3), .second, .val (.long p5), .second, .val (.long p7), .second, .val (.int p9), .val (.long (0 : Int64)), .second] [(.long (fn_b p3 p0 (1 : Int32))), (.long (0 : Int64))]))
      refine Jvm.OwnW.lor O15 de_27 rfl (q := 28) rfl ?_
      refine Jvm.OwnW.lstore O15 de_28 (L' := #[.val (.int p0), .val (.long p1), .second, .val (.long p3), .second, .val (.long p5), .second, .val (.long p7), .second, .val (.int p9), .val (.long ((0 : Int64) ||| (fn_b p3 p0 (1 : Int32)))), .second]) rfl (q := 30) rfl ?_
      refine Jvm.OwnW.lload O15 de_30 rfl (q := 32) rfl ?_
      refine Jvm.OwnW.lload O15 de_32 rfl (q := 34) rfl ?_
      refine Jvm.OwnW.iloadN O15 de_34 rfl (q := 35) rfl ?_
      refine Jvm.OwnW.iload O15 de_35 rfl (q := 37) rfl ?_
      refine Jvm.OwnW.iconst O15 de_37 (r := (1 : Int32)) rfl (q := 38) rfl ?_
      by_cases hc38 : (1 : Int32) < p9
      · refine Jvm.OwnW.icmpNo O15 de_38 (tlt hc38).2.2.2 (q := 41) rfl ?_
        refine Jvm.OwnW.iconst O15 de_41 (r := (1 : Int32)) rfl (q := 42) rfl ?_
        refine Jvm.OwnW.goto O15 de_42 (by decide) (q := 46) rfl ?_
        refine Jvm.OwnW.callS0 O15 (y := (⟨"com/example/occupancy/occupancy/cell/internal/BitCellsSetAllPinLaw", "bitFor", "(JIZ)J"⟩ : MethodName)) (argsL := [(.long p5), (.int p0), (.int (1 : Int32))]) (rest := [(.long ((0 : Int64) ||| (fn_b p3 p0 (1 : Int32))))]) de_46 (hw _ (List.mem_of_getElem? (i := 67) rfl)) (hw _ (List.mem_of_getElem? (i := 68) rfl)) (hw _ (List.mem_of_getElem? (i := 65) rfl)) (hw _ (List.mem_of_getElem? (i := 69) rfl)) (by decide) (rm_b l Z a0 hw p5 p0 (1 : Int32) h0) rfl pd_5 rfl (hst := rfl) (W := 2) (Nat.le_of_eq rfl) (by decide) (by decide) (c2 := 0) (s2 := 0) rfl rfl (by decide) (by decide) rfl rfl (q := 49) rfl ?_
        intro v16 T16 O16 q16
        obtain rfl := q16
        show Go C _ _ _ _ (T16.setTop (mkF C.m 49 #[.val (.int p0), .val (.long p1), .second, .val (.long p3), .second, .val (.long p5), .second, .val (.long p7), .second, .val (.int p9), .val (.long ((0 : Int64) ||| (fn_b p3 p0 (1 : Int32)))), .second] [(.long (fn_b p5 p0 (1 : Int32))), (.long ((0 : Int64) ||| (fn_b p3 p0 (1 : Int32))))]))
        refine Jvm.OwnW.lor O16 de_49 rfl (q := 50) rfl ?_
        refine Jvm.OwnW.lstore O16 de_50 (L' := #[.val (.int p0), .val (.long p1), .second, .val (.long p3), .second, .val (.long p5), .second, .val (.long p7), .second, .val (.int p9), .val (.long (((0 : Int64) ||| (fn_b p3 p0 (1 : Int32))) ||| (fn_b p5 p0 (1 : Int32)))), .second]) rfl (q := 52) rfl ?_
        refine Jvm.OwnW.lload O16 de_52 rfl (q := 54) rfl ?_
        refine Jvm.OwnW.lload O16 de_54 rfl (q := 56) rfl ?_
        refine Jvm.OwnW.iloadN O16 de_56 rfl (q := 57) rfl ?_
        refine Jvm.OwnW.iload O16 de_57 rfl (q := 59) rfl ?_
        refine Jvm.OwnW.iconst O16 de_59 (r := (2 : Int32)) rfl (q := 60) rfl ?_
        by_cases hc60 : (2 : Int32) < p9
        · refine Jvm.OwnW.icmpNo O16 de_60 (tlt hc60).2.2.2 (q := 63) rfl ?_
          refine Jvm.OwnW.iconst O16 de_63 (r := (1 : Int32)) rfl (q := 64) rfl ?_
          refine Jvm.OwnW.goto O16 de_64 (by decide) (q := 68) rfl ?_
          refine Jvm.OwnW.callS0 O16 (y := (⟨"com/example/occupancy/occupancy/cell/internal/BitCellsSetAllPinLaw", "bitFor", "(JIZ)J"⟩ : MethodName)) (argsL := [(.long p7), (.int p0), (.int (1 : Int32))]) (rest := [(.long (((0 : Int64) ||| (fn_b p3 p0 (1 : Int32))) ||| (fn_b p5 p0 (1 : Int32))))]) de_68 (hw _ (List.mem_of_getElem? (i := 67) rfl)) (hw _ (List.mem_of_getElem? (i := 68) rfl)) (hw _ (List.mem_of_getElem? (i := 65) rfl)) (hw _ (List.mem_of_getElem? (i := 69) rfl)) (by decide) (rm_b l Z a0 hw p7 p0 (1 : Int32) h0) rfl pd_5 rfl (hst := rfl) (W := 2) (Nat.le_of_eq rfl) (by decide) (by decide) (c2 := 0) (s2 := 0) rfl rfl (by decide) (by decide) rfl rfl (q := 71) rfl ?_
          intro v17 T17 O17 q17
          obtain rfl := q17
          show Go C _ _ _ _ (T17.setTop (mkF C.m 71 #[.val (.int p0), .val (.long p1), .second, .val (.long p3), .second, .val (.long p5), .second, .val (.long p7), .second, .val (.int p9), .val (.long (((0 : Int64) ||| (fn_b p3 p0 (1 : Int32))) ||| (fn_b p5 p0 (1 : Int32)))), .second] [(.long (fn_b p7 p0 (1 : Int32))), (.long (((0 : Int64) ||| (fn_b p3 p0 (1 : Int32))) ||| (fn_b p5 p0 (1 : Int32))))]))
          refine Jvm.OwnW.lor O17 de_71 rfl (q := 72) rfl ?_
          refine Jvm.OwnW.lstore O17 de_72 (L' := #[.val (.int p0), .val (.long p1), .second, .val (.long p3), .second, .val (.long p5), .second, .val (.long p7), .second, .val (.int p9), .val (.long ((((0 : Int64) ||| (fn_b p3 p0 (1 : Int32))) ||| (fn_b p5 p0 (1 : Int32))) ||| (fn_b p7 p0 (1 : Int32)))), .second]) rfl (q := 74) rfl ?_
          refine Jvm.OwnW.lload O17 de_74 rfl (q := 76) rfl ?_
          exact Jvm.OwnW.retL O17 de_76 rfl (by decide) (by decide) (by show some (Value.long ((((0 : Int64) ||| (fn_b p3 p0 (1 : Int32))) ||| (fn_b p5 p0 (1 : Int32))) ||| (fn_b p7 p0 (1 : Int32)))) = some (Value.long (fn_e p0 p1 p3 p5 p7 p9)); rw [fn_e, if_neg hc4, if_pos hc16, if_pos hc38, if_pos hc60])
        · refine Jvm.OwnW.icmpYes O16 de_60 (flt hc60).2.2.2 (by decide) (q := 67) rfl ?_
          refine Jvm.OwnW.iconst O16 de_67 (r := (0 : Int32)) rfl (q := 68) rfl ?_
          refine Jvm.OwnW.callS0 O16 (y := (⟨"com/example/occupancy/occupancy/cell/internal/BitCellsSetAllPinLaw", "bitFor", "(JIZ)J"⟩ : MethodName)) (argsL := [(.long p7), (.int p0), (.int (0 : Int32))]) (rest := [(.long (((0 : Int64) ||| (fn_b p3 p0 (1 : Int32))) ||| (fn_b p5 p0 (1 : Int32))))]) de_68 (hw _ (List.mem_of_getElem? (i := 67) rfl)) (hw _ (List.mem_of_getElem? (i := 68) rfl)) (hw _ (List.mem_of_getElem? (i := 65) rfl)) (hw _ (List.mem_of_getElem? (i := 69) rfl)) (by decide) (rm_b l Z a0 hw p7 p0 (0 : Int32) h0) rfl pd_5 rfl (hst := rfl) (W := 2) (Nat.le_of_eq rfl) (by decide) (by decide) (c2 := 0) (s2 := 0) rfl rfl (by decide) (by decide) rfl rfl (q := 71) rfl ?_
          intro v18 T18 O18 q18
          obtain rfl := q18
          show Go C _ _ _ _ (T18.setTop (mkF C.m 71 #[.val (.int p0), .val (.long p1), .second, .val (.long p3), .second, .val (.long p5), .second, .val (.long p7), .second, .val (.int p9), .val (.long (((0 : Int64) ||| (fn_b p3 p0 (1 : Int32))) ||| (fn_b p5 p0 (1 : Int32)))), .second] [(.long (fn_b p7 p0 (0 : Int32))), (.long (((0 : Int64) ||| (fn_b p3 p0 (1 : Int32))) ||| (fn_b p5 p0 (1 : Int32))))]))
          refine Jvm.OwnW.lor O18 de_71 rfl (q := 72) rfl ?_
          refine Jvm.OwnW.lstore O18 de_72 (L' := #[.val (.int p0), .val (.long p1), .second, .val (.long p3), .second, .val (.long p5), .second, .val (.long p7), .second, .val (.int p9), .val (.long ((((0 : Int64) ||| (fn_b p3 p0 (1 : Int32))) ||| (fn_b p5 p0 (1 : Int32))) ||| (fn_b p7 p0 (0 : Int32)))), .second]) rfl (q := 74) rfl ?_
          refine Jvm.OwnW.lload O18 de_74 rfl (q := 76) rfl ?_
          exact Jvm.OwnW.retL O18 de_76 rfl (by decide) (by decide) (by show some (Value.long ((((0 : Int64) ||| (fn_b p3 p0 (1 : Int32))) ||| (fn_b p5 p0 (1 : Int32))) ||| (fn_b p7 p0 (0 : Int32)))) = some (Value.long (fn_e p0 p1 p3 p5 p7 p9)); rw [fn_e, if_neg hc4, if_pos hc16, if_pos hc38, if_neg hc60])
      · refine Jvm.OwnW.icmpYes O15 de_38 (flt hc38).2.2.2 (by decide) (q := 45) rfl ?_
        refine Jvm.OwnW.iconst O15 de_45 (r := (0 : Int32)) rfl (q := 46) rfl ?_
        refine Jvm.OwnW.callS0 O15 (y := (⟨"com/example/occupancy/occupancy/cell/internal/BitCellsSetAllPinLaw", "bitFor", "(JIZ)J"⟩ : MethodName)) (argsL := [(.long p5), (.int p0), (.int (0 : Int32))]) (rest := [(.long ((0 : Int64) ||| (fn_b p3 p0 (1 : Int32))))]) de_46 (hw _ (List.mem_of_getElem? (i := 67) rfl)) (hw _ (List.mem_of_getElem? (i := 68) rfl)) (hw _ (List.mem_of_getElem? (i := 65) rfl)) (hw _ (List.mem_of_getElem? (i := 69) rfl)) (by decide) (rm_b l Z a0 hw p5 p0 (0 : Int32) h0) rfl pd_5 rfl (hst := rfl) (W := 2) (Nat.le_of_eq rfl) (by decide) (by decide) (c2 := 0) (s2 := 0) rfl rfl (by decide) (by decide) rfl rfl (q := 49) rfl ?_
        intro v19 T19 O19 q19
        obtain rfl := q19
        show Go C _ _ _ _ (T19.setTop (mkF C.m 49 #[.val (.int p0), .val (.long p1), .second, .val (.long p3), .second, .val (.long p5), .second, .val (.long p7), .second, .val (.int p9), .val (.long ((0 : Int64) ||| (fn_b p3 p0 (1 : Int32)))), .second] [(.long (fn_b p5 p0 (0 : Int32))), (.long ((0 : Int64) ||| (fn_b p3 p0 (1 : Int32))))]))
        refine Jvm.OwnW.lor O19 de_49 rfl (q := 50) rfl ?_
        refine Jvm.OwnW.lstore O19 de_50 (L' := #[.val (.int p0), .val (.long p1), .second, .val (.long p3), .second, .val (.long p5), .second, .val (.long p7), .second, .val (.int p9), .val (.long (((0 : Int64) ||| (fn_b p3 p0 (1 : Int32))) ||| (fn_b p5 p0 (0 : Int32)))), .second]) rfl (q := 52) rfl ?_
        refine Jvm.OwnW.lload O19 de_52 rfl (q := 54) rfl ?_
        refine Jvm.OwnW.lload O19 de_54 rfl (q := 56) rfl ?_
        refine Jvm.OwnW.iloadN O19 de_56 rfl (q := 57) rfl ?_
        refine Jvm.OwnW.iload O19 de_57 rfl (q := 59) rfl ?_
        refine Jvm.OwnW.iconst O19 de_59 (r := (2 : Int32)) rfl (q := 60) rfl ?_
        by_cases hc60 : (2 : Int32) < p9
        · refine Jvm.OwnW.icmpNo O19 de_60 (tlt hc60).2.2.2 (q := 63) rfl ?_
          refine Jvm.OwnW.iconst O19 de_63 (r := (1 : Int32)) rfl (q := 64) rfl ?_
          refine Jvm.OwnW.goto O19 de_64 (by decide) (q := 68) rfl ?_
          refine Jvm.OwnW.callS0 O19 (y := (⟨"com/example/occupancy/occupancy/cell/internal/BitCellsSetAllPinLaw", "bitFor", "(JIZ)J"⟩ : MethodName)) (argsL := [(.long p7), (.int p0), (.int (1 : Int32))]) (rest := [(.long (((0 : Int64) ||| (fn_b p3 p0 (1 : Int32))) ||| (fn_b p5 p0 (0 : Int32))))]) de_68 (hw _ (List.mem_of_getElem? (i := 67) rfl)) (hw _ (List.mem_of_getElem? (i := 68) rfl)) (hw _ (List.mem_of_getElem? (i := 65) rfl)) (hw _ (List.mem_of_getElem? (i := 69) rfl)) (by decide) (rm_b l Z a0 hw p7 p0 (1 : Int32) h0) rfl pd_5 rfl (hst := rfl) (W := 2) (Nat.le_of_eq rfl) (by decide) (by decide) (c2 := 0) (s2 := 0) rfl rfl (by decide) (by decide) rfl rfl (q := 71) rfl ?_
          intro v20 T20 O20 q20
          obtain rfl := q20
          show Go C _ _ _ _ (T20.setTop (mkF C.m 71 #[.val (.int p0), .val (.long p1), .second, .val (.long p3), .second, .val (.long p5), .second, .val (.long p7), .second, .val (.int p9), .val (.long (((0 : Int64) ||| (fn_b p3 p0 (1 : Int32))) ||| (fn_b p5 p0 (0 : Int32)))), .second] [(.long (fn_b p7 p0 (1 : Int32))), (.long (((0 : Int64) ||| (fn_b p3 p0 (1 : Int32))) ||| (fn_b p5 p0 (0 : Int32))))]))
          refine Jvm.OwnW.lor O20 de_71 rfl (q := 72) rfl ?_
          refine Jvm.OwnW.lstore O20 de_72 (L' := #[.val (.int p0), .val (.long p1), .second, .val (.long p3), .second, .val (.long p5), .second, .val (.long p7), .second, .val (.int p9), .val (.long ((((0 : Int64) ||| (fn_b p3 p0 (1 : Int32))) ||| (fn_b p5 p0 (0 : Int32))) ||| (fn_b p7 p0 (1 : Int32)))), .second]) rfl (q := 74) rfl ?_
          refine Jvm.OwnW.lload O20 de_74 rfl (q := 76) rfl ?_
          exact Jvm.OwnW.retL O20 de_76 rfl (by decide) (by decide) (by show some (Value.long ((((0 : Int64) ||| (fn_b p3 p0 (1 : Int32))) ||| (fn_b p5 p0 (0 : Int32))) ||| (fn_b p7 p0 (1 : Int32)))) = some (Value.long (fn_e p0 p1 p3 p5 p7 p9)); rw [fn_e, if_neg hc4, if_pos hc16, if_neg hc38, if_pos hc60])
        · refine Jvm.OwnW.icmpYes O19 de_60 (flt hc60).2.2.2 (by decide) (q := 67) rfl ?_
          refine Jvm.OwnW.iconst O19 de_67 (r := (0 : Int32)) rfl (q := 68) rfl ?_
          refine Jvm.OwnW.callS0 O19 (y := (⟨"com/example/occupancy/occupancy/cell/internal/BitCellsSetAllPinLaw", "bitFor", "(JIZ)J"⟩ : MethodName)) (argsL := [(.long p7), (.int p0), (.int (0 : Int32))]) (rest := [(.long (((0 : Int64) ||| (fn_b p3 p0 (1 : Int32))) ||| (fn_b p5 p0 (0 : Int32))))]) de_68 (hw _ (List.mem_of_getElem? (i := 67) rfl)) (hw _ (List.mem_of_getElem? (i := 68) rfl)) (hw _ (List.mem_of_getElem? (i := 65) rfl)) (hw _ (List.mem_of_getElem? (i := 69) rfl)) (by decide) (rm_b l Z a0 hw p7 p0 (0 : Int32) h0) rfl pd_5 rfl (hst := rfl) (W := 2) (Nat.le_of_eq rfl) (by decide) (by decide) (c2 := 0) (s2 := 0) rfl rfl (by decide) (by decide) rfl rfl (q := 71) rfl ?_
          intro v21 T21 O21 q21
          obtain rfl := q21
          show Go C _ _ _ _ (T21.setTop (mkF C.m 71 #[.val (.int p0), .val (.long p1), .second, .val (.long p3), .second, .val (.long p5), .second, .val (.long p7), .second, .val (.int p9), .val (.long (((0 : Int64) ||| (fn_b p3 p0 (1 : Int32))) ||| (fn_b p5 p0 (0 : Int32)))), .second] [(.long (fn_b p7 p0 (0 : Int32))), (.long (((0 : Int64) ||| (fn_b p3 p0 (1 : Int32))) ||| (fn_b p5 p0 (0 : Int32))))]))
          refine Jvm.OwnW.lor O21 de_71 rfl (q := 72) rfl ?_
          refine Jvm.OwnW.lstore O21 de_72 (L' := #[.val (.int p0), .val (.long p1), .second, .val (.long p3), .second, .val (.long p5), .second, .val (.long p7), .second, .val (.int p9), .val (.long ((((0 : Int64) ||| (fn_b p3 p0 (1 : Int32))) ||| (fn_b p5 p0 (0 : Int32))) ||| (fn_b p7 p0 (0 : Int32)))), .second]) rfl (q := 74) rfl ?_
          refine Jvm.OwnW.lload O21 de_74 rfl (q := 76) rfl ?_
          exact Jvm.OwnW.retL O21 de_76 rfl (by decide) (by decide) (by show some (Value.long ((((0 : Int64) ||| (fn_b p3 p0 (1 : Int32))) ||| (fn_b p5 p0 (0 : Int32))) ||| (fn_b p7 p0 (0 : Int32)))) = some (Value.long (fn_e p0 p1 p3 p5 p7 p9)); rw [fn_e, if_neg hc4, if_pos hc16, if_neg hc38, if_neg hc60])
    · refine Jvm.OwnW.ifYes O de_16 (fgt0 hc16).2 (by decide) (q := 23) rfl ?_
      refine Jvm.OwnW.iconst O de_23 (r := (0 : Int32)) rfl (q := 24) rfl ?_
      refine Jvm.OwnW.callS0 O (y := (⟨"com/example/occupancy/occupancy/cell/internal/BitCellsSetAllPinLaw", "bitFor", "(JIZ)J"⟩ : MethodName)) (argsL := [(.long p3), (.int p0), (.int (0 : Int32))]) (rest := [(.long (0 : Int64))]) de_24 (hw _ (List.mem_of_getElem? (i := 67) rfl)) (hw _ (List.mem_of_getElem? (i := 68) rfl)) (hw _ (List.mem_of_getElem? (i := 65) rfl)) (hw _ (List.mem_of_getElem? (i := 69) rfl)) (by decide) (rm_b l Z a0 hw p3 p0 (0 : Int32) h0) rfl pd_5 rfl (hst := rfl) (W := 2) (Nat.le_of_eq rfl) (by decide) (by decide) (c2 := 0) (s2 := 0) rfl rfl (by decide) (by decide) rfl rfl (q := 27) rfl ?_
      intro v22 T22 O22 q22
      obtain rfl := q22
      show Go C _ _ _ _ (T22.setTop (mkF C.m 27 #[.val (.int p0), .val (.long p1), .second, .val (.long p3), .second, .val (.long p5), .second, .val (.long p7), .second, .val (.int p9), .val (.long (0 : Int64)), .second] [(.long (fn_b p3 p0 (0 : Int32))), (.long (0 : Int64))]))
      refine Jvm.OwnW.lor O22 de_27 rfl (q := 28) rfl ?_
      refine Jvm.OwnW.lstore O22 de_28 (L' := #[.val (.int p0), .val (.long p1), .second, .val (.long p3), .second, .val (.long p5), .second, .val (.long p7), .second, .val (.int p9), .val (.long ((0 : Int64) ||| (fn_b p3 p0 (0 : Int32)))), .second]) rfl (q := 30) rfl ?_
      refine Jvm.OwnW.lload O22 de_30 rfl (q := 32) rfl ?_
      refine Jvm.OwnW.lload O22 de_32 rfl (q := 34) rfl ?_
      refine Jvm.OwnW.iloadN O22 de_34 rfl (q := 35) rfl ?_
      refine Jvm.OwnW.iload O22 de_35 rfl (q := 37) rfl ?_
      refine Jvm.OwnW.iconst O22 de_37 (r := (1 : Int32)) rfl (q := 38) rfl ?_
      by_cases hc38 : (1 : Int32) < p9
      · refine Jvm.OwnW.icmpNo O22 de_38 (tlt hc38).2.2.2 (q := 41) rfl ?_
        refine Jvm.OwnW.iconst O22 de_41 (r := (1 : Int32)) rfl (q := 42) rfl ?_
        refine Jvm.OwnW.goto O22 de_42 (by decide) (q := 46) rfl ?_
        refine Jvm.OwnW.callS0 O22 (y := (⟨"com/example/occupancy/occupancy/cell/internal/BitCellsSetAllPinLaw", "bitFor", "(JIZ)J"⟩ : MethodName)) (argsL := [(.long p5), (.int p0), (.int (1 : Int32))]) (rest := [(.long ((0 : Int64) ||| (fn_b p3 p0 (0 : Int32))))]) de_46 (hw _ (List.mem_of_getElem? (i := 67) rfl)) (hw _ (List.mem_of_getElem? (i := 68) rfl)) (hw _ (List.mem_of_getElem? (i := 65) rfl)) (hw _ (List.mem_of_getElem? (i := 69) rfl)) (by decide) (rm_b l Z a0 hw p5 p0 (1 : Int32) h0) rfl pd_5 rfl (hst := rfl) (W := 2) (Nat.le_of_eq rfl) (by decide) (by decide) (c2 := 0) (s2 := 0) rfl rfl (by decide) (by decide) rfl rfl (q := 49) rfl ?_
        intro v23 T23 O23 q23
        obtain rfl := q23
        show Go C _ _ _ _ (T23.setTop (mkF C.m 49 #[.val (.int p0), .val (.long p1), .second, .val (.long p3), .second, .val (.long p5), .second, .val (.long p7), .second, .val (.int p9), .val (.long ((0 : Int64) ||| (fn_b p3 p0 (0 : Int32)))), .second] [(.long (fn_b p5 p0 (1 : Int32))), (.long ((0 : Int64) ||| (fn_b p3 p0 (0 : Int32))))]))
        refine Jvm.OwnW.lor O23 de_49 rfl (q := 50) rfl ?_
        refine Jvm.OwnW.lstore O23 de_50 (L' := #[.val (.int p0), .val (.long p1), .second, .val (.long p3), .second, .val (.long p5), .second, .val (.long p7), .second, .val (.int p9), .val (.long (((0 : Int64) ||| (fn_b p3 p0 (0 : Int32))) ||| (fn_b p5 p0 (1 : Int32)))), .second]) rfl (q := 52) rfl ?_
        refine Jvm.OwnW.lload O23 de_52 rfl (q := 54) rfl ?_
        refine Jvm.OwnW.lload O23 de_54 rfl (q := 56) rfl ?_
        refine Jvm.OwnW.iloadN O23 de_56 rfl (q := 57) rfl ?_
        refine Jvm.OwnW.iload O23 de_57 rfl (q := 59) rfl ?_
        refine Jvm.OwnW.iconst O23 de_59 (r := (2 : Int32)) rfl (q := 60) rfl ?_
        by_cases hc60 : (2 : Int32) < p9
        · refine Jvm.OwnW.icmpNo O23 de_60 (tlt hc60).2.2.2 (q := 63) rfl ?_
          refine Jvm.OwnW.iconst O23 de_63 (r := (1 : Int32)) rfl (q := 64) rfl ?_
          refine Jvm.OwnW.goto O23 de_64 (by decide) (q := 68) rfl ?_
          refine Jvm.OwnW.callS0 O23 (y := (⟨"com/example/occupancy/occupancy/cell/internal/BitCellsSetAllPinLaw", "bitFor", "(JIZ)J"⟩ : MethodName)) (argsL := [(.long p7), (.int p0), (.int (1 : Int32))]) (rest := [(.long (((0 : Int64) ||| (fn_b p3 p0 (0 : Int32))) ||| (fn_b p5 p0 (1 : Int32))))]) de_68 (hw _ (List.mem_of_getElem? (i := 67) rfl)) (hw _ (List.mem_of_getElem? (i := 68) rfl)) (hw _ (List.mem_of_getElem? (i := 65) rfl)) (hw _ (List.mem_of_getElem? (i := 69) rfl)) (by decide) (rm_b l Z a0 hw p7 p0 (1 : Int32) h0) rfl pd_5 rfl (hst := rfl) (W := 2) (Nat.le_of_eq rfl) (by decide) (by decide) (c2 := 0) (s2 := 0) rfl rfl (by decide) (by decide) rfl rfl (q := 71) rfl ?_
          intro v24 T24 O24 q24
          obtain rfl := q24
          show Go C _ _ _ _ (T24.setTop (mkF C.m 71 #[.val (.int p0), .val (.long p1), .second, .val (.long p3), .second, .val (.long p5), .second, .val (.long p7), .second, .val (.int p9), .val (.long (((0 : Int64) ||| (fn_b p3 p0 (0 : Int32))) ||| (fn_b p5 p0 (1 : Int32)))), .second] [(.long (fn_b p7 p0 (1 : Int32))), (.long (((0 : Int64) ||| (fn_b p3 p0 (0 : Int32))) ||| (fn_b p5 p0 (1 : Int32))))]))
          refine Jvm.OwnW.lor O24 de_71 rfl (q := 72) rfl ?_
          refine Jvm.OwnW.lstore O24 de_72 (L' := #[.val (.int p0), .val (.long p1), .second, .val (.long p3), .second, .val (.long p5), .second, .val (.long p7), .second, .val (.int p9), .val (.long ((((0 : Int64) ||| (fn_b p3 p0 (0 : Int32))) ||| (fn_b p5 p0 (1 : Int32))) ||| (fn_b p7 p0 (1 : Int32)))), .second]) rfl (q := 74) rfl ?_
          refine Jvm.OwnW.lload O24 de_74 rfl (q := 76) rfl ?_
          exact Jvm.OwnW.retL O24 de_76 rfl (by decide) (by decide) (by show some (Value.long ((((0 : Int64) ||| (fn_b p3 p0 (0 : Int32))) ||| (fn_b p5 p0 (1 : Int32))) ||| (fn_b p7 p0 (1 : Int32)))) = some (Value.long (fn_e p0 p1 p3 p5 p7 p9)); rw [fn_e, if_neg hc4, if_neg hc16, if_pos hc38, if_pos hc60])
        · refine Jvm.OwnW.icmpYes O23 de_60 (flt hc60).2.2.2 (by decide) (q := 67) rfl ?_
          refine Jvm.OwnW.iconst O23 de_67 (r := (0 : Int32)) rfl (q := 68) rfl ?_
          refine Jvm.OwnW.callS0 O23 (y := (⟨"com/example/occupancy/occupancy/cell/internal/BitCellsSetAllPinLaw", "bitFor", "(JIZ)J"⟩ : MethodName)) (argsL := [(.long p7), (.int p0), (.int (0 : Int32))]) (rest := [(.long (((0 : Int64) ||| (fn_b p3 p0 (0 : Int32))) ||| (fn_b p5 p0 (1 : Int32))))]) de_68 (hw _ (List.mem_of_getElem? (i := 67) rfl)) (hw _ (List.mem_of_getElem? (i := 68) rfl)) (hw _ (List.mem_of_getElem? (i := 65) rfl)) (hw _ (List.mem_of_getElem? (i := 69) rfl)) (by decide) (rm_b l Z a0 hw p7 p0 (0 : Int32) h0) rfl pd_5 rfl (hst := rfl) (W := 2) (Nat.le_of_eq rfl) (by decide) (by decide) (c2 := 0) (s2 := 0) rfl rfl (by decide) (by decide) rfl rfl (q := 71) rfl ?_
          intro v25 T25 O25 q25
          obtain rfl := q25
          show Go C _ _ _ _ (T25.setTop (mkF C.m 71 #[.val (.int p0), .val (.long p1), .second, .val (.long p3), .second, .val (.long p5), .second, .val (.long p7), .second, .val (.int p9), .val (.long (((0 : Int64) ||| (fn_b p3 p0 (0 : Int32))) ||| (fn_b p5 p0 (1 : Int32)))), .second] [(.long (fn_b p7 p0 (0 : Int32))), (.long (((0 : Int64) ||| (fn_b p3 p0 (0 : Int32))) ||| (fn_b p5 p0 (1 : Int32))))]))
          refine Jvm.OwnW.lor O25 de_71 rfl (q := 72) rfl ?_
          refine Jvm.OwnW.lstore O25 de_72 (L' := #[.val (.int p0), .val (.long p1), .second, .val (.long p3), .second, .val (.long p5), .second, .val (.long p7), .second, .val (.int p9), .val (.long ((((0 : Int64) ||| (fn_b p3 p0 (0 : Int32))) ||| (fn_b p5 p0 (1 : Int32))) ||| (fn_b p7 p0 (0 : Int32)))), .second]) rfl (q := 74) rfl ?_
          refine Jvm.OwnW.lload O25 de_74 rfl (q := 76) rfl ?_
          exact Jvm.OwnW.retL O25 de_76 rfl (by decide) (by decide) (by show some (Value.long ((((0 : Int64) ||| (fn_b p3 p0 (0 : Int32))) ||| (fn_b p5 p0 (1 : Int32))) ||| (fn_b p7 p0 (0 : Int32)))) = some (Value.long (fn_e p0 p1 p3 p5 p7 p9)); rw [fn_e, if_neg hc4, if_neg hc16, if_pos hc38, if_neg hc60])
      · refine Jvm.OwnW.icmpYes O22 de_38 (flt hc38).2.2.2 (by decide) (q := 45) rfl ?_
        refine Jvm.OwnW.iconst O22 de_45 (r := (0 : Int32)) rfl (q := 46) rfl ?_
        refine Jvm.OwnW.callS0 O22 (y := (⟨"com/example/occupancy/occupancy/cell/internal/BitCellsSetAllPinLaw", "bitFor", "(JIZ)J"⟩ : MethodName)) (argsL := [(.long p5), (.int p0), (.int (0 : Int32))]) (rest := [(.long ((0 : Int64) ||| (fn_b p3 p0 (0 : Int32))))]) de_46 (hw _ (List.mem_of_getElem? (i := 67) rfl)) (hw _ (List.mem_of_getElem? (i := 68) rfl)) (hw _ (List.mem_of_getElem? (i := 65) rfl)) (hw _ (List.mem_of_getElem? (i := 69) rfl)) (by decide) (rm_b l Z a0 hw p5 p0 (0 : Int32) h0) rfl pd_5 rfl (hst := rfl) (W := 2) (Nat.le_of_eq rfl) (by decide) (by decide) (c2 := 0) (s2 := 0) rfl rfl (by decide) (by decide) rfl rfl (q := 49) rfl ?_
        intro v26 T26 O26 q26
        obtain rfl := q26
        show Go C _ _ _ _ (T26.setTop (mkF C.m 49 #[.val (.int p0), .val (.long p1), .second, .val (.long p3), .second, .val (.long p5), .second, .val (.long p7), .second, .val (.int p9), .val (.long ((0 : Int64) ||| (fn_b p3 p0 (0 : Int32)))), .second] [(.long (fn_b p5 p0 (0 : Int32))), (.long ((0 : Int64) ||| (fn_b p3 p0 (0 : Int32))))]))
        refine Jvm.OwnW.lor O26 de_49 rfl (q := 50) rfl ?_
        refine Jvm.OwnW.lstore O26 de_50 (L' := #[.val (.int p0), .val (.long p1), .second, .val (.long p3), .second, .val (.long p5), .second, .val (.long p7), .second, .val (.int p9), .val (.long (((0 : Int64) ||| (fn_b p3 p0 (0 : Int32))) ||| (fn_b p5 p0 (0 : Int32)))), .second]) rfl (q := 52) rfl ?_
        refine Jvm.OwnW.lload O26 de_52 rfl (q := 54) rfl ?_
        refine Jvm.OwnW.lload O26 de_54 rfl (q := 56) rfl ?_
        refine Jvm.OwnW.iloadN O26 de_56 rfl (q := 57) rfl ?_
        refine Jvm.OwnW.iload O26 de_57 rfl (q := 59) rfl ?_
        refine Jvm.OwnW.iconst O26 de_59 (r := (2 : Int32)) rfl (q := 60) rfl ?_
        by_cases hc60 : (2 : Int32) < p9
        · refine Jvm.OwnW.icmpNo O26 de_60 (tlt hc60).2.2.2 (q := 63) rfl ?_
          refine Jvm.OwnW.iconst O26 de_63 (r := (1 : Int32)) rfl (q := 64) rfl ?_
          refine Jvm.OwnW.goto O26 de_64 (by decide) (q := 68) rfl ?_
          refine Jvm.OwnW.callS0 O26 (y := (⟨"com/example/occupancy/occupancy/cell/internal/BitCellsSetAllPinLaw", "bitFor", "(JIZ)J"⟩ : MethodName)) (argsL := [(.long p7), (.int p0), (.int (1 : Int32))]) (rest := [(.long (((0 : Int64) ||| (fn_b p3 p0 (0 : Int32))) ||| (fn_b p5 p0 (0 : Int32))))]) de_68 (hw _ (List.mem_of_getElem? (i := 67) rfl)) (hw _ (List.mem_of_getElem? (i := 68) rfl)) (hw _ (List.mem_of_getElem? (i := 65) rfl)) (hw _ (List.mem_of_getElem? (i := 69) rfl)) (by decide) (rm_b l Z a0 hw p7 p0 (1 : Int32) h0) rfl pd_5 rfl (hst := rfl) (W := 2) (Nat.le_of_eq rfl) (by decide) (by decide) (c2 := 0) (s2 := 0) rfl rfl (by decide) (by decide) rfl rfl (q := 71) rfl ?_
          intro v27 T27 O27 q27
          obtain rfl := q27
          show Go C _ _ _ _ (T27.setTop (mkF C.m 71 #[.val (.int p0), .val (.long p1), .second, .val (.long p3), .second, .val (.long p5), .second, .val (.long p7), .second, .val (.int p9), .val (.long (((0 : Int64) ||| (fn_b p3 p0 (0 : Int32))) ||| (fn_b p5 p0 (0 : Int32)))), .second] [(.long (fn_b p7 p0 (1 : Int32))), (.long (((0 : Int64) ||| (fn_b p3 p0 (0 : Int32))) ||| (fn_b p5 p0 (0 : Int32))))]))
          refine Jvm.OwnW.lor O27 de_71 rfl (q := 72) rfl ?_
          refine Jvm.OwnW.lstore O27 de_72 (L' := #[.val (.int p0), .val (.long p1), .second, .val (.long p3), .second, .val (.long p5), .second, .val (.long p7), .second, .val (.int p9), .val (.long ((((0 : Int64) ||| (fn_b p3 p0 (0 : Int32))) ||| (fn_b p5 p0 (0 : Int32))) ||| (fn_b p7 p0 (1 : Int32)))), .second]) rfl (q := 74) rfl ?_
          refine Jvm.OwnW.lload O27 de_74 rfl (q := 76) rfl ?_
          exact Jvm.OwnW.retL O27 de_76 rfl (by decide) (by decide) (by show some (Value.long ((((0 : Int64) ||| (fn_b p3 p0 (0 : Int32))) ||| (fn_b p5 p0 (0 : Int32))) ||| (fn_b p7 p0 (1 : Int32)))) = some (Value.long (fn_e p0 p1 p3 p5 p7 p9)); rw [fn_e, if_neg hc4, if_neg hc16, if_neg hc38, if_pos hc60])
        · refine Jvm.OwnW.icmpYes O26 de_60 (flt hc60).2.2.2 (by decide) (q := 67) rfl ?_
          refine Jvm.OwnW.iconst O26 de_67 (r := (0 : Int32)) rfl (q := 68) rfl ?_
          refine Jvm.OwnW.callS0 O26 (y := (⟨"com/example/occupancy/occupancy/cell/internal/BitCellsSetAllPinLaw", "bitFor", "(JIZ)J"⟩ : MethodName)) (argsL := [(.long p7), (.int p0), (.int (0 : Int32))]) (rest := [(.long (((0 : Int64) ||| (fn_b p3 p0 (0 : Int32))) ||| (fn_b p5 p0 (0 : Int32))))]) de_68 (hw _ (List.mem_of_getElem? (i := 67) rfl)) (hw _ (List.mem_of_getElem? (i := 68) rfl)) (hw _ (List.mem_of_getElem? (i := 65) rfl)) (hw _ (List.mem_of_getElem? (i := 69) rfl)) (by decide) (rm_b l Z a0 hw p7 p0 (0 : Int32) h0) rfl pd_5 rfl (hst := rfl) (W := 2) (Nat.le_of_eq rfl) (by decide) (by decide) (c2 := 0) (s2 := 0) rfl rfl (by decide) (by decide) rfl rfl (q := 71) rfl ?_
          intro v28 T28 O28 q28
          obtain rfl := q28
          show Go C _ _ _ _ (T28.setTop (mkF C.m 71 #[.val (.int p0), .val (.long p1), .second, .val (.long p3), .second, .val (.long p5), .second, .val (.long p7), .second, .val (.int p9), .val (.long (((0 : Int64) ||| (fn_b p3 p0 (0 : Int32))) ||| (fn_b p5 p0 (0 : Int32)))), .second] [(.long (fn_b p7 p0 (0 : Int32))), (.long (((0 : Int64) ||| (fn_b p3 p0 (0 : Int32))) ||| (fn_b p5 p0 (0 : Int32))))]))
          refine Jvm.OwnW.lor O28 de_71 rfl (q := 72) rfl ?_
          refine Jvm.OwnW.lstore O28 de_72 (L' := #[.val (.int p0), .val (.long p1), .second, .val (.long p3), .second, .val (.long p5), .second, .val (.long p7), .second, .val (.int p9), .val (.long ((((0 : Int64) ||| (fn_b p3 p0 (0 : Int32))) ||| (fn_b p5 p0 (0 : Int32))) ||| (fn_b p7 p0 (0 : Int32)))), .second]) rfl (q := 74) rfl ?_
          refine Jvm.OwnW.lload O28 de_74 rfl (q := 76) rfl ?_
          exact Jvm.OwnW.retL O28 de_76 rfl (by decide) (by decide) (by show some (Value.long ((((0 : Int64) ||| (fn_b p3 p0 (0 : Int32))) ||| (fn_b p5 p0 (0 : Int32))) ||| (fn_b p7 p0 (0 : Int32)))) = some (Value.long (fn_e p0 p1 p3 p5 p7 p9)); rw [fn_e, if_neg hc4, if_neg hc16, if_neg hc38, if_neg hc60])
theorem own_m (x : Int32) : ∃ n : Nat, ((x &&& 255).toInt64 + 1).toInt = (n : Int) ∧ 1 ≤ n ∧ n ≤ 256 := by
  have h := c_mask x 255 8 (by decide) (by decide)
  have h2 := c_i2l (x &&& 255)
  have h1 : (1 : Int64).toInt = 1 := rfl
  have h3 : ((x &&& 255).toInt64 + 1).toInt = (x &&& 255).toInt64.toInt + 1 := by rw [Jvm.OwnW.add64 (by omega) (by omega), h1]
  exact ⟨((x &&& 255).toInt64 + 1).toInt.toNat, by omega, by omega, by omega⟩
theorem own_63 (m : Int64) (mn : Nat) (hm : m.toInt = (mn : Int)) (h : mn ≤ 256) : (m + 63).toInt = ((mn + 63 : Nat) : Int) := by
  have h1 : (63 : Int64).toInt = 63 := rfl
  rw [Jvm.OwnW.add64 (by omega) (by omega)]; omega
theorem own_wc (m : Int64) (mn : Nat) (hm : m.toInt = (mn : Int)) (h : mn ≤ 256) : ((m + 63) / 64).toInt32.toInt = (((mn + 63) / 64 : Nat) : Int) := by
  have h1 := own_63 m mn hm h
  have h2 := (c_ldiv (m + 63) 64 64 rfl (by decide)).1 (by omega)
  have h3 := c_l2i ((m + 63) / 64); have := rng32 ((m + 63) / 64).toInt32
  omega
theorem own_fw (m : Int64) (mn : Nat) (hm : m.toInt = (mn : Int)) (h : mn ≤ 256) : (fn_w m).toInt = (((mn + 63) / 64 : Nat) : Int) := by
  have h1 := own_63 m mn hm h
  rw [fn_w]
  have h2 := c_lushr (m + 63) 6 6 (by decide) (by decide)
  have h3 := c_l2i (((m + 63).toUInt64 >>> ((6 : Int32) &&& 0x3f).toInt64.toUInt64).toInt64); have := rng32 (((m + 63).toUInt64 >>> ((6 : Int32) &&& 0x3f).toInt64.toUInt64).toInt64).toInt32
  omega
theorem own_sp (c : Int32) (nn : Nat) (hc : c.toInt = (nn : Int)) (h : nn ≤ 4) : ((64 : Int64) * c.toInt64).toInt = ((64 * nn : Nat) : Int) := by
  have h1 : (64 : Int64).toInt = 64 := rfl
  have h2 := c_i2l c
  rw [Jvm.OwnW.mul64 (by rw [h1]; omega) (by rw [h1]; omega), h1]; omega
theorem own_rm (i s : Int64) (N : Nat) (hs : s.toInt = (N : Int)) (h : 0 < N) : ∃ x : Nat, ((i &&& 9223372036854775807) % s).toInt = (x : Int) ∧ x < N := by
  have h1 := c_maskL i 9223372036854775807 63 (by decide) (by decide)
  have h2 : ((i &&& 9223372036854775807) % s).toInt = (i &&& 9223372036854775807).toInt % (N : Int) := rem64 hs (by omega)
  have h3 := Int.emod_nonneg (i &&& 9223372036854775807).toInt (show (N : Int) ≠ 0 by omega)
  have h4 := Int.emod_lt_of_pos (i &&& 9223372036854775807).toInt (show (0 : Int) < (N : Int) by omega)
  exact ⟨((i &&& 9223372036854775807) % s).toInt.toNat, by omega, by omega⟩
theorem own_ix (x : Int64) (xn : Nat) (hx : x.toInt = (xn : Int)) (h : xn < 256) : (((x.toUInt64 >>> ((6 : Int32) &&& 0x3f).toInt64.toUInt64).toInt64).toInt32).toInt = ((xn / 64 : Nat) : Int) := by
  have h2 := c_lushr x 6 6 (by decide) (by decide)
  have h3 := c_l2i ((x.toUInt64 >>> ((6 : Int32) &&& 0x3f).toInt64.toUInt64).toInt64); have := rng32 ((x.toUInt64 >>> ((6 : Int32) &&& 0x3f).toInt64.toUInt64).toInt64).toInt32
  omega
theorem own_c3 (x : Int32) : ∃ n : Nat, (x &&& 3).toInt = (n : Int) ∧ n < 4 := by
  have h := c_mask x 3 2 (by decide) (by decide)
  exact ⟨(x &&& 3).toInt.toNat, by omega, by omega⟩
theorem own_sh (x : Int64) (xn : Nat) (hx : x.toInt = (xn : Int)) : (x % 64).toInt32 &&& 0x3f = x.toInt32 &&& 0x3f := by
  apply eq32
  rw [c_mask _ 0x3f 6 (by decide) (by decide), c_mask _ 0x3f 6 (by decide) (by decide)]
  have h1 : (x % 64).toInt = x.toInt % 64 := rem64 rfl (by omega)
  have h2 := c_l2i x; have h3 := c_l2i (x % 64)
  omega
theorem own_b1 (x : Int64) (xn : Nat) (hx : x.toInt = (xn : Int)) (k : Int32) (kn : Nat) (hk : k.toInt = (kn : Int)) : fn_b x k 1 = if kn = xn / 64 then ((1 : Int64) <<< (x.toInt32 &&& 0x3f).toInt64) else 0 := by
  have h2 : (x / 64).toInt = x.toInt / 64 := (c_ldiv x 64 64 rfl (by decide)).1 (by omega)
  have h3 := c_i2l k
  rw [fn_b, if_neg (by decide)]
  by_cases e : kn = xn / 64
  · rw [if_pos e, if_pos (show x / 64 = k.toInt64 from eq64 (by omega)), own_sh x xn hx]
  · rw [if_neg e, if_neg (show ¬ x / 64 = k.toInt64 from ne64 (by omega))]
theorem own_b0 (x : Int64) (k : Int32) : fn_b x k 0 = 0 := by rw [fn_b, if_pos rfl]
theorem own_st (g : Nat → Int64) (x : Int64) (xn : Nat) (hx : x.toInt = (xn : Int)) (k : Int32) (kn : Nat) (hk : k.toInt = (kn : Int)) : own_o g (xn / 64) ((1 : Int64) <<< (x.toInt32 &&& 0x3f).toInt64) kn = g kn ||| fn_b x k 1 := by
  rw [own_b1 x xn hx k kn hk, own_o]
  by_cases e : kn = xn / 64
  · rw [if_pos e, if_pos e]
  · rw [if_neg e, if_neg e, Int64.or_zero]
theorem own_gk (w : Int64) (k : Int32) (kn : Nat) (hk : k.toInt = (kn : Int)) : own_g w kn = if k = 0 then w else 0 := by
  rw [own_g]
  by_cases e : k = 0
  · subst e; have : (0 : Int32).toInt = 0 := rfl; rw [if_pos rfl, if_pos (by omega)]
  · rw [if_neg e, if_neg (fun q => e (eq32 (by rw [hk, q]; rfl)))]
theorem own_e0 (w a b c : Int64) (an bn cn : Nat) (ha : a.toInt = (an : Int)) (hb : b.toInt = (bn : Int)) (hc : c.toInt = (cn : Int)) (k : Int32) (kn : Nat) (hk : k.toInt = (kn : Int)) : (own_g w) kn = fn_e k w a b c 0 := by
  rw [own_gk w k kn hk, fn_e]
  by_cases e : k = 0
  · rw [if_pos e, if_pos e]; simp only [own_b0, Int64.or_zero]; rfl
  · rw [if_neg e, if_neg e]; simp only [own_b0, Int64.or_zero]; rfl
theorem own_e1 (w a b c : Int64) (an bn cn : Nat) (ha : a.toInt = (an : Int)) (hb : b.toInt = (bn : Int)) (hc : c.toInt = (cn : Int)) (k : Int32) (kn : Nat) (hk : k.toInt = (kn : Int)) : (own_o (own_g w) (an / 64) ((1 : Int64) <<< (a.toInt32 &&& 0x3f).toInt64)) kn = fn_e k w a b c 1 := by
  rw [own_st _ a an ha k kn hk, own_gk w k kn hk, fn_e]
  by_cases e : k = 0
  · rw [if_pos e, if_pos e]; simp only [own_b0, Int64.or_zero]; rfl
  · rw [if_neg e, if_neg e]; simp only [own_b0, Int64.or_zero]; rfl
theorem own_e2 (w a b c : Int64) (an bn cn : Nat) (ha : a.toInt = (an : Int)) (hb : b.toInt = (bn : Int)) (hc : c.toInt = (cn : Int)) (k : Int32) (kn : Nat) (hk : k.toInt = (kn : Int)) : (own_o (own_o (own_g w) (an / 64) ((1 : Int64) <<< (a.toInt32 &&& 0x3f).toInt64)) (bn / 64) ((1 : Int64) <<< (b.toInt32 &&& 0x3f).toInt64)) kn = fn_e k w a b c 2 := by
  rw [own_st _ b bn hb k kn hk, own_st _ a an ha k kn hk, own_gk w k kn hk, fn_e]
  by_cases e : k = 0
  · rw [if_pos e, if_pos e]; simp only [own_b0, Int64.or_zero]; rfl
  · rw [if_neg e, if_neg e]; simp only [own_b0, Int64.or_zero]; rfl
theorem own_e3 (w a b c : Int64) (an bn cn : Nat) (ha : a.toInt = (an : Int)) (hb : b.toInt = (bn : Int)) (hc : c.toInt = (cn : Int)) (k : Int32) (kn : Nat) (hk : k.toInt = (kn : Int)) : (own_o (own_o (own_o (own_g w) (an / 64) ((1 : Int64) <<< (a.toInt32 &&& 0x3f).toInt64)) (bn / 64) ((1 : Int64) <<< (b.toInt32 &&& 0x3f).toInt64)) (cn / 64) ((1 : Int64) <<< (c.toInt32 &&& 0x3f).toInt64)) kn = fn_e k w a b c 3 := by
  rw [own_st _ c cn hc k kn hk, own_st _ b bn hb k kn hk, own_st _ a an ha k kn hk, own_gk w k kn hk, fn_e]
  by_cases e : k = 0
  · rw [if_pos e, if_pos e]; simp only [own_b0, Int64.or_zero]; rfl
  · rw [if_neg e, if_neg e]; simp only [own_b0, Int64.or_zero]; rfl
theorem pd_6 : parseMethodDescriptor "(J)V" = some ⟨[.long], none⟩ := by decide +kernel
theorem pd_7 : parseMethodDescriptor "(IJ)V" = some ⟨[.int, .long], none⟩ := by decide +kernel
theorem pd_8 : parseMethodDescriptor "([JI)V" = some ⟨[(.array .long), .int], none⟩ := by decide +kernel
theorem pd_9 : parseMethodDescriptor "()J" = some ⟨[], some .long⟩ := by decide +kernel
theorem pd_10 : parseMethodDescriptor "(I)J" = some ⟨[.int], some .long⟩ := by decide +kernel
theorem pd_11 : parseMethodDescriptor "(IJJJJI)J" = some ⟨[.int, .long, .long, .long, .long, .int], some .long⟩ := by decide +kernel
theorem ef_0 (p0 : Int32) (p1 : Int32) (p2 : Int64) (p4 : Int64) (p6 : Int64) (p8 : Int64) (m : MethodId) : entryFrame m #[(.int p0), (.int p1), (.long p2), (.long p4), (.long p6), (.long p8)] maxLocals = mkF m 0 #[.val (.int p0), .val (.int p1), .val (.long p2), .second, .val (.long p4), .second, .val (.long p6), .second, .val (.long p8), .second, .unset, .unset, .unset, .unset, .unset, .unset, .unset, .unset, .unset, .unset, .unset, .unset, .unset, .unset, .unset] [] := by first | (simp [entryFrame, mkF, argsToLocals, Value.category, maxLocals]; done) | rfl
theorem pn_0 : plainFor x = true := by first | exact plainFor_of_name (by first | (simp [plainName, overriddenIn]; done) | decide +kernel) | decide +kernel
set_option maxRecDepth 65536 in
set_option maxHeartbeats 40000000 in
theorem rm_0 (l : Launch) (Z : State) (a0 : Array Value) (hw : ∀ d ∈ tables_1, d.before a0 Z = true) (wds : List Jvm.Cond) (p0 : Int32) (p1 : Int32) (p2 : Int64) (p4 : Int64) (p6 : Int64) (p8 : Int64) (h0 : Heap)  :
    Met l Z x code maxLocals ret wds room_1 #[(.int p0), (.int p1), (.long p2), (.long p4), (.long p6), (.long p8)] [] h0 (fun v h => v = some (.int 1)) := by
  refine Met.mk pn_0 (ef_0 p0 p1 p2 p4 p6 p8) ?_
  intro C T hs0 O
  show Go C [] (fun v h => v = some (.int 1)) 16 1152 (T.setTop (mkF C.m 0 #[.val (.int p0), .val (.int p1), .val (.long p2), .second, .val (.long p4), .second, .val (.long p6), .second, .val (.long p8), .second, .unset, .unset, .unset, .unset, .unset, .unset, .unset, .unset, .unset, .unset, .unset, .unset, .unset, .unset, .unset] []))
  refine Jvm.OwnW.iloadN O at_0 rfl (q := 1) rfl ?_
  refine Jvm.OwnW.sipush O at_1 (r := (255 : Int32)) rfl (q := 4) rfl ?_
  refine Jvm.OwnW.iand O at_4 rfl (q := 5) rfl ?_
  refine Jvm.OwnW.i2l O at_5 rfl (q := 6) rfl ?_
  refine Jvm.OwnW.lconst O at_6 (r := (1 : Int64)) rfl (q := 7) rfl ?_
  obtain ⟨m, hm⟩ : ∃ zz_, ((p0 &&& (255 : Int32)).toInt64 + (1 : Int64)) = zz_ := ⟨_, rfl⟩
  refine Jvm.OwnW.ladd O at_7 hm (q := 8) rfl ?_
  obtain ⟨mn, hmn, hm1, hm2⟩ := own_m p0
  rw [hm] at hmn
  have hlo : ¬ m < 1 := nlt64 (by rw [hmn]; show (1 : Int) ≤ _; omega)
  have hhi : ¬ 137438952896 < m := nlt64 (by rw [hmn]; show _ ≤ (137438952896 : Int); omega)
  refine Jvm.OwnW.lstore O at_8 (L' := #[.val (.int p0), .val (.int p1), .val (.long p2), .second, .val (.long p4), .second, .val (.long p6), .second, .val (.long p8), .second, .val (.long m), .second, .unset, .unset, .unset, .unset, .unset, .unset, .unset, .unset, .unset, .unset, .unset, .unset, .unset]) rfl (q := 10) rfl ?_
  refine Jvm.OwnW.lload O at_10 rfl (q := 12) rfl ?_
  refine Jvm.OwnW.ldcL O at_12 (hw _ (List.mem_of_getElem? (i := 0) rfl)) (q := 15) rfl ?_
  refine Jvm.OwnW.ladd O at_15 rfl (q := 16) rfl ?_
  refine Jvm.OwnW.ldcL O at_16 (hw _ (List.mem_of_getElem? (i := 1) rfl)) (q := 19) rfl ?_
  refine Jvm.OwnW.ldiv O at_19 (by decide) rfl (q := 20) rfl ?_
  obtain ⟨wc, hwc⟩ : ∃ zz_, ((m + (63 : Int64)) / (64 : Int64)).toInt32 = zz_ := ⟨_, rfl⟩
  refine Jvm.OwnW.l2i O at_20 hwc (q := 21) rfl ?_
  have hwn := own_wc m mn hmn hm2
  rw [hwc] at hwn
  have hnw := own_fw m mn hmn hm2
  obtain ⟨nn, hnn0⟩ : ∃ z, (mn + 63) / 64 = z := ⟨_, rfl⟩
  rw [hnn0] at hwn hnw
  have hnn := hwn
  have hn4 : nn ≤ 4 := by omega
  have hn1 : 0 < nn := by omega
  refine Jvm.OwnW.istore O at_21 (L' := #[.val (.int p0), .val (.int p1), .val (.long p2), .second, .val (.long p4), .second, .val (.long p6), .second, .val (.long p8), .second, .val (.long m), .second, .val (.int wc), .unset, .unset, .unset, .unset, .unset, .unset, .unset, .unset, .unset, .unset, .unset, .unset]) rfl (q := 23) rfl ?_
  refine Jvm.OwnW.ldcL O at_23 (hw _ (List.mem_of_getElem? (i := 1) rfl)) (q := 26) rfl ?_
  refine Jvm.OwnW.iload O at_26 rfl (q := 28) rfl ?_
  refine Jvm.OwnW.i2l O at_28 rfl (q := 29) rfl ?_
  obtain ⟨sp, hsp⟩ : ∃ zz_, ((64 : Int64) * wc.toInt64) = zz_ := ⟨_, rfl⟩
  refine Jvm.OwnW.lmul O at_29 hsp (q := 30) rfl ?_
  have hspn := own_sp wc nn hnn hn4
  rw [hsp] at hspn
  refine Jvm.OwnW.lstore O at_30 (L' := #[.val (.int p0), .val (.int p1), .val (.long p2), .second, .val (.long p4), .second, .val (.long p6), .second, .val (.long p8), .second, .val (.long m), .second, .val (.int wc), .val (.long sp), .second, .unset, .unset, .unset, .unset, .unset, .unset, .unset, .unset, .unset, .unset]) rfl (q := 32) rfl ?_
  refine Jvm.OwnW.lloadN O at_32 rfl (q := 33) rfl ?_
  refine Jvm.OwnW.ldcL O at_33 (hw _ (List.mem_of_getElem? (i := 2) rfl)) (q := 36) rfl ?_
  refine Jvm.OwnW.land O at_36 rfl (q := 37) rfl ?_
  refine Jvm.OwnW.lload O at_37 rfl (q := 39) rfl ?_
  obtain ⟨xa, hxa⟩ : ∃ zz_, ((p2 &&& (9223372036854775807 : Int64)) % sp) = zz_ := ⟨_, rfl⟩
  refine Jvm.OwnW.lrem O at_39 (ne0_64 (by omega)) hxa (q := 40) rfl ?_
  obtain ⟨xan, hxan, xal⟩ := own_rm p2 sp (64 * nn) hspn (by omega)
  rw [hxa] at hxan
  have hka := own_ix xa xan hxan (by omega)
  obtain ⟨ka, hqa⟩ : ∃ z, xan / 64 = z := ⟨_, rfl⟩
  rw [hqa] at hka
  have hna : ka < nn := by omega
  refine Jvm.OwnW.lstore O at_40 (L' := #[.val (.int p0), .val (.int p1), .val (.long p2), .second, .val (.long p4), .second, .val (.long p6), .second, .val (.long p8), .second, .val (.long m), .second, .val (.int wc), .val (.long sp), .second, .val (.long xa), .second, .unset, .unset, .unset, .unset, .unset, .unset, .unset, .unset]) rfl (q := 42) rfl ?_
  refine Jvm.OwnW.lload O at_42 rfl (q := 44) rfl ?_
  refine Jvm.OwnW.ldcL O at_44 (hw _ (List.mem_of_getElem? (i := 2) rfl)) (q := 47) rfl ?_
  refine Jvm.OwnW.land O at_47 rfl (q := 48) rfl ?_
  refine Jvm.OwnW.lload O at_48 rfl (q := 50) rfl ?_
  obtain ⟨xb, hxb⟩ : ∃ zz_, ((p4 &&& (9223372036854775807 : Int64)) % sp) = zz_ := ⟨_, rfl⟩
  refine Jvm.OwnW.lrem O at_50 (ne0_64 (by omega)) hxb (q := 51) rfl ?_
  obtain ⟨xbn, hxbn, xbl⟩ := own_rm p4 sp (64 * nn) hspn (by omega)
  rw [hxb] at hxbn
  have hkb := own_ix xb xbn hxbn (by omega)
  obtain ⟨kb, hqb⟩ : ∃ z, xbn / 64 = z := ⟨_, rfl⟩
  rw [hqb] at hkb
  have hnb : kb < nn := by omega
  refine Jvm.OwnW.lstore O at_51 (L' := #[.val (.int p0), .val (.int p1), .val (.long p2), .second, .val (.long p4), .second, .val (.long p6), .second, .val (.long p8), .second, .val (.long m), .second, .val (.int wc), .val (.long sp), .second, .val (.long xa), .second, .val (.long xb), .second, .unset, .unset, .unset, .unset, .unset, .unset]) rfl (q := 53) rfl ?_
  refine Jvm.OwnW.lload O at_53 rfl (q := 55) rfl ?_
  refine Jvm.OwnW.ldcL O at_55 (hw _ (List.mem_of_getElem? (i := 2) rfl)) (q := 58) rfl ?_
  refine Jvm.OwnW.land O at_58 rfl (q := 59) rfl ?_
  refine Jvm.OwnW.lload O at_59 rfl (q := 61) rfl ?_
  obtain ⟨xc, hxc⟩ : ∃ zz_, ((p6 &&& (9223372036854775807 : Int64)) % sp) = zz_ := ⟨_, rfl⟩
  refine Jvm.OwnW.lrem O at_61 (ne0_64 (by omega)) hxc (q := 62) rfl ?_
  obtain ⟨xcn, hxcn, xcl⟩ := own_rm p6 sp (64 * nn) hspn (by omega)
  rw [hxc] at hxcn
  have hkc := own_ix xc xcn hxcn (by omega)
  obtain ⟨kc, hqc⟩ : ∃ z, xcn / 64 = z := ⟨_, rfl⟩
  rw [hqc] at hkc
  have hnc : kc < nn := by omega
  refine Jvm.OwnW.lstore O at_62 (L' := #[.val (.int p0), .val (.int p1), .val (.long p2), .second, .val (.long p4), .second, .val (.long p6), .second, .val (.long p8), .second, .val (.long m), .second, .val (.int wc), .val (.long sp), .second, .val (.long xa), .second, .val (.long xb), .second, .val (.long xc), .second, .unset, .unset, .unset, .unset]) rfl (q := 64) rfl ?_
  refine Jvm.OwnW.iloadN O at_64 rfl (q := 65) rfl ?_
  refine Jvm.OwnW.iconst O at_65 (r := (3 : Int32)) rfl (q := 66) rfl ?_
  obtain ⟨ct, hct⟩ : ∃ zz_, (p1 &&& (3 : Int32)) = zz_ := ⟨_, rfl⟩
  refine Jvm.OwnW.iand O at_66 hct (q := 67) rfl ?_
  obtain ⟨cn, hcn, hc4⟩ := own_c3 p1
  rw [hct] at hcn
  obtain rfl | rfl | rfl | rfl : cn = 0 ∨ cn = 1 ∨ cn = 2 ∨ cn = 3 := by omega
  · skip
    obtain rfl : ct = (0 : Int32) := eq32 hcn
    show Go C _ _ _ _ (T.setTop (mkF C.m 67 #[.val (.int p0), .val (.int p1), .val (.long p2), .second, .val (.long p4), .second, .val (.long p6), .second, .val (.long p8), .second, .val (.long m), .second, .val (.int wc), .val (.long sp), .second, .val (.long xa), .second, .val (.long xb), .second, .val (.long xc), .second, .unset, .unset, .unset, .unset] [(.int (0 : Int32))]))
    refine Jvm.OwnW.istore O at_67 (L' := #[.val (.int p0), .val (.int p1), .val (.long p2), .second, .val (.long p4), .second, .val (.long p6), .second, .val (.long p8), .second, .val (.long m), .second, .val (.int wc), .val (.long sp), .second, .val (.long xa), .second, .val (.long xb), .second, .val (.long xc), .second, .val (.int (0 : Int32)), .unset, .unset, .unset]) rfl (q := 69) rfl ?_
    refine Jvm.OwnW.iconst O at_69 (r := (3 : Int32)) rfl (q := 70) rfl ?_
    refine Jvm.OwnW.newA' O at_70 (ty := .long) rfl (hw _ (List.mem_of_getElem? (i := 3) rfl)) (N := 3) rfl (cap := 3) (by decide) (by decide) (c2 := 1) (s2 := 3) rfl rfl (by decide) (by decide) (q := 72) rfl ?_
    intro a1 T1 h1 g1 N1 O1 X1 V_a1
    have V_a1 : Ar Z h1 a1 .long 3 (lf [(.long (0 : Int64)), (.long (0 : Int64)), (.long (0 : Int64))]) := V_a1.congr (lf_rep 3 _)
    refine Jvm.OwnW.dup O1 at_72 rfl (q := 73) rfl ?_
    refine Jvm.OwnW.iconst O1 at_73 (r := (0 : Int32)) rfl (q := 74) rfl ?_
    refine Jvm.OwnW.lload O1 at_74 rfl (q := 76) rfl ?_
    refine Jvm.OwnW.lasA O1 at_76 V_a1 (i := 0) rfl (by decide) (Or.inr N1) (q := 77) rfl ?_
    intro T2 h2 O2 W2
    have V_a1 : Ar Z h2 a1 .long 3 (lf [(.long xa), (.long (0 : Int64)), (.long (0 : Int64))]) := V_a1.setL W2 (by decide) (Nat.le_of_ble_eq_true rfl)
    refine Jvm.OwnW.dup O2 at_77 rfl (q := 78) rfl ?_
    refine Jvm.OwnW.iconst O2 at_78 (r := (1 : Int32)) rfl (q := 79) rfl ?_
    refine Jvm.OwnW.lload O2 at_79 rfl (q := 81) rfl ?_
    refine Jvm.OwnW.lasA O2 at_81 V_a1 (i := 1) rfl (by decide) (Or.inr N1) (q := 82) rfl ?_
    intro T3 h3 O3 W3
    have V_a1 : Ar Z h3 a1 .long 3 (lf [(.long xa), (.long xb), (.long (0 : Int64))]) := V_a1.setL W3 (by decide) (Nat.le_of_ble_eq_true rfl)
    refine Jvm.OwnW.dup O3 at_82 rfl (q := 83) rfl ?_
    refine Jvm.OwnW.iconst O3 at_83 (r := (2 : Int32)) rfl (q := 84) rfl ?_
    refine Jvm.OwnW.lload O3 at_84 rfl (q := 86) rfl ?_
    refine Jvm.OwnW.lasA O3 at_86 V_a1 (i := 2) rfl (by decide) (Or.inr N1) (q := 87) rfl ?_
    intro T4 h4 O4 W4
    have V_a1 : Ar Z h4 a1 .long 3 (lf [(.long xa), (.long xb), (.long xc)]) := V_a1.setL W4 (by decide) (Nat.le_of_ble_eq_true rfl)
    refine Jvm.OwnW.astore O4 at_87 rfl (L' := #[.val (.int p0), .val (.int p1), .val (.long p2), .second, .val (.long p4), .second, .val (.long p6), .second, .val (.long p8), .second, .val (.long m), .second, .val (.int wc), .val (.long sp), .second, .val (.long xa), .second, .val (.long xb), .second, .val (.long xc), .second, .val (.int (0 : Int32)), .val (.ref a1), .unset, .unset]) rfl (q := 89) rfl ?_
    refine Jvm.OwnW.newO O4 at_89 (hw _ (List.mem_of_getElem? (i := 4) rfl)) (hw _ (List.mem_of_getElem? (i := 5) rfl)) (hw _ (List.mem_of_getElem? (i := 6) rfl)) (c2 := 2) (s2 := 5) rfl rfl (by decide) (by decide) (q := 92) rfl ?_
    intro a5 T5 h5 g5 N5 O5 X5 E_a5 D5
    have ne_a1_a5 : a1 ≠ a5 := Nat.ne_of_lt (Nat.lt_of_lt_of_le V_a1.lt (Nat.le_of_eq g5.symm))
    have V_a1 := V_a1.ext X5
    have F_cellCount_a5 : Fld Z h5 a5 "com/example/occupancy/occupancy/cell/internal/BitCells" "cellCount" "J" (.long (0 : Int64)) := D5 (Or.inr (hw _ (List.mem_of_getElem? (i := 40) rfl))) (ty := .long) (by decide)
    have F_words_a5 : Fld Z h5 a5 "com/example/occupancy/occupancy/cell/internal/BitCells" "words" "[J" .null := D5 (Or.inr (hw _ (List.mem_of_getElem? (i := 42) rfl))) (ty := (.array .long)) (by decide)
    refine Jvm.OwnW.dup O5 at_92 rfl (q := 93) rfl ?_
    refine Jvm.OwnW.lload O5 at_93 rfl (q := 95) rfl ?_
    have lt_a1 := V_a1.lt
    have lt_a5 := E_a5.lt
    refine Jvm.OwnW.callI O5 (y := (⟨"com/example/occupancy/occupancy/cell/internal/BitCells", "<init>", "(J)V"⟩ : MethodName)) (a := a5) (argsL := [(.long m)]) (rest := [(.ref a5)]) at_95 rfl (hw _ (List.mem_of_getElem? (i := 7) rfl)) (hw _ (List.mem_of_getElem? (i := 8) rfl)) (hw _ (List.mem_of_getElem? (i := 6) rfl)) (hw _ (List.mem_of_getElem? (i := 9) rfl)) (by decide) (rm_i l Z a0 hw a5 m nn h5 E_a5 F_cellCount_a5 F_words_a5 hlo hhi hnw hn4) rfl pd_6 rfl (hst := rfl) (W := 1) (Nat.le_of_eq rfl) (by decide) (by decide) (c2 := 5) (s2 := 49) rfl rfl (by decide) (by decide) (allS (Or.inr N5) all0) (q := 98) rfl ?_
    intro v6 T6 h6 O6 K6 q6
    obtain ⟨rfl, al, m_al, F_words_a5, V_al⟩ := q6
    have V_a1 := V_a1.keep K6 (ninS ne_a1_a5 nin0)
    have E_a5 := E_a5.keep K6
    have N_al : C.s.heap.size ≤ al := Nat.le_trans O5.size m_al
    have ne_a1_al : a1 ≠ al := Nat.ne_of_lt (Nat.lt_of_lt_of_le lt_a1 m_al)
    have ne_a5_al : a5 ≠ al := Nat.ne_of_lt (Nat.lt_of_lt_of_le lt_a5 m_al)
    show Go C _ _ _ _ (T6.setTop (mkF C.m 98 #[.val (.int p0), .val (.int p1), .val (.long p2), .second, .val (.long p4), .second, .val (.long p6), .second, .val (.long p8), .second, .val (.long m), .second, .val (.int wc), .val (.long sp), .second, .val (.long xa), .second, .val (.long xb), .second, .val (.long xc), .second, .val (.int (0 : Int32)), .val (.ref a1), .unset, .unset] [(.ref a5)]))
    refine Jvm.OwnW.astore O6 at_98 rfl (L' := #[.val (.int p0), .val (.int p1), .val (.long p2), .second, .val (.long p4), .second, .val (.long p6), .second, .val (.long p8), .second, .val (.long m), .second, .val (.int wc), .val (.long sp), .second, .val (.long xa), .second, .val (.long xb), .second, .val (.long xc), .second, .val (.int (0 : Int32)), .val (.ref a1), .val (.ref a5), .unset]) rfl (q := 100) rfl ?_
    refine Jvm.OwnW.aload O6 at_100 rfl rfl (q := 102) rfl ?_
    refine Jvm.OwnW.iconst O6 at_102 (r := (0 : Int32)) rfl (q := 103) rfl ?_
    refine Jvm.OwnW.lload O6 at_103 rfl (q := 105) rfl ?_
    refine Jvm.OwnW.callV O6 (y := (⟨"com/example/occupancy/occupancy/cell/internal/BitCells", "setWord", "(IJ)V"⟩ : MethodName)) (z := (⟨"com/example/occupancy/occupancy/cell/internal/BitCells", "setWord", "(IJ)V"⟩ : MethodName)) (a := a5) (argsL := [(.int (0 : Int32)), (.long p8)]) (rest := []) at_105 (hw _ (List.mem_of_getElem? (i := 43) rfl)) (hw _ (List.mem_of_getElem? (i := 44) rfl)) (hw _ (List.mem_of_getElem? (i := 46) rfl)) rfl (hw _ (List.mem_of_getElem? (i := 45) rfl)) (hw _ (List.mem_of_getElem? (i := 6) rfl)) (hw _ (List.mem_of_getElem? (i := 47) rfl)) (by decide) (rm_s l Z a0 hw a5 p8 al nn h6 E_a5 F_words_a5 ne_a5_al V_al hn1) E_a5 rfl pd_7 rfl (hst := rfl) (W := 0) (Nat.le_of_eq rfl) (by decide) (by decide) (c2 := 5) (s2 := 49) rfl rfl (by decide) (by decide) (allS (Or.inr N_al) all0) (q := 108) rfl ?_
    intro v7 T7 h7 O7 K7 q7
    obtain ⟨rfl, V_al⟩ := q7
    have V_a1 := V_a1.keep K7 (ninS ne_a1_al nin0)
    have E_a5 := E_a5.keep K7
    have F_words_a5 := F_words_a5.keep K7 (ninS ne_a5_al nin0)
    show Go C _ _ _ _ (T7.setTop (mkF C.m 108 #[.val (.int p0), .val (.int p1), .val (.long p2), .second, .val (.long p4), .second, .val (.long p6), .second, .val (.long p8), .second, .val (.long m), .second, .val (.int wc), .val (.long sp), .second, .val (.long xa), .second, .val (.long xb), .second, .val (.long xc), .second, .val (.int (0 : Int32)), .val (.ref a1), .val (.ref a5), .unset] []))
    refine Jvm.OwnW.aload O7 at_108 rfl rfl (q := 110) rfl ?_
    refine Jvm.OwnW.aload O7 at_110 rfl rfl (q := 112) rfl ?_
    refine Jvm.OwnW.iload O7 at_112 rfl (q := 114) rfl ?_
    refine Jvm.OwnW.callV O7 (y := (⟨"com/example/occupancy/occupancy/cell/internal/BitCells", "setAll", "([JI)V"⟩ : MethodName)) (z := (⟨"com/example/occupancy/occupancy/cell/internal/BitCells", "setAll", "([JI)V"⟩ : MethodName)) (a := a5) (argsL := [(.ref a1), (.int (0 : Int32))]) (rest := []) at_114 (hw _ (List.mem_of_getElem? (i := 48) rfl)) (hw _ (List.mem_of_getElem? (i := 49) rfl)) (hw _ (List.mem_of_getElem? (i := 51) rfl)) rfl (hw _ (List.mem_of_getElem? (i := 50) rfl)) (hw _ (List.mem_of_getElem? (i := 6) rfl)) (hw _ (List.mem_of_getElem? (i := 52) rfl)) (by decide) (rm_a0 l Z a0 hw a5 a1 al xa xb xc ka kb kc nn (own_g p8) h7 E_a5 F_words_a5 ne_a5_al V_al V_a1 ne_a1_al hka hna hkb hnb hkc hnc) E_a5 rfl pd_8 rfl (hst := rfl) (W := 0) (Nat.le_of_eq rfl) (by decide) (by decide) (c2 := 5) (s2 := 49) rfl rfl (by decide) (by decide) (allS (Or.inr N_al) all0) (q := 117) rfl ?_
    intro v8 T8 h8 O8 K8 q8
    obtain ⟨rfl, V_al⟩ := q8
    have V_a1 := V_a1.keep K8 (ninS ne_a1_al nin0)
    have E_a5 := E_a5.keep K8
    have F_words_a5 := F_words_a5.keep K8 (ninS ne_a5_al nin0)
    show Go C _ _ _ _ (T8.setTop (mkF C.m 117 #[.val (.int p0), .val (.int p1), .val (.long p2), .second, .val (.long p4), .second, .val (.long p6), .second, .val (.long p8), .second, .val (.long m), .second, .val (.int wc), .val (.long sp), .second, .val (.long xa), .second, .val (.long xb), .second, .val (.long xc), .second, .val (.int (0 : Int32)), .val (.ref a1), .val (.ref a5), .unset] []))
    refine Jvm.OwnW.aload O8 at_117 rfl rfl (q := 119) rfl ?_
    refine Jvm.OwnW.iconst O8 at_119 (r := (0 : Int32)) rfl (q := 120) rfl ?_
    refine Jvm.OwnW.lalA O8 at_120 V_a1 (i := 0) rfl (by decide) (v := (.long xa)) rfl (q := 121) rfl ?_
    refine Jvm.OwnW.lload O8 at_121 rfl (q := 123) rfl ?_
    refine Jvm.OwnW.lcmp O8 at_123 rfl (q := 124) rfl ?_
    refine Jvm.OwnW.ifNo O8 at_124 (teqL (show xa = xa from rfl)).2 (q := 127) rfl ?_
    refine Jvm.OwnW.aload O8 at_127 rfl rfl (q := 129) rfl ?_
    refine Jvm.OwnW.iconst O8 at_129 (r := (1 : Int32)) rfl (q := 130) rfl ?_
    refine Jvm.OwnW.lalA O8 at_130 V_a1 (i := 1) rfl (by decide) (v := (.long xb)) rfl (q := 131) rfl ?_
    refine Jvm.OwnW.lload O8 at_131 rfl (q := 133) rfl ?_
    refine Jvm.OwnW.lcmp O8 at_133 rfl (q := 134) rfl ?_
    refine Jvm.OwnW.ifNo O8 at_134 (teqL (show xb = xb from rfl)).2 (q := 137) rfl ?_
    refine Jvm.OwnW.aload O8 at_137 rfl rfl (q := 139) rfl ?_
    refine Jvm.OwnW.iconst O8 at_139 (r := (2 : Int32)) rfl (q := 140) rfl ?_
    refine Jvm.OwnW.lalA O8 at_140 V_a1 (i := 2) rfl (by decide) (v := (.long xc)) rfl (q := 141) rfl ?_
    refine Jvm.OwnW.lload O8 at_141 rfl (q := 143) rfl ?_
    refine Jvm.OwnW.lcmp O8 at_143 rfl (q := 144) rfl ?_
    refine Jvm.OwnW.ifNo O8 at_144 (teqL (show xc = xc from rfl)).2 (q := 147) rfl ?_
    refine Jvm.OwnW.iconst O8 at_147 (r := (1 : Int32)) rfl (q := 148) rfl ?_
    refine Jvm.OwnW.goto O8 at_148 (by decide) (q := 152) rfl ?_
    refine Jvm.OwnW.istore O8 at_152 (L' := #[.val (.int p0), .val (.int p1), .val (.long p2), .second, .val (.long p4), .second, .val (.long p6), .second, .val (.long p8), .second, .val (.long m), .second, .val (.int wc), .val (.long sp), .second, .val (.long xa), .second, .val (.long xb), .second, .val (.long xc), .second, .val (.int (0 : Int32)), .val (.ref a1), .val (.ref a5), .val (.int (1 : Int32))]) rfl (q := 154) rfl ?_
    refine Jvm.OwnW.iload O8 at_154 rfl (q := 156) rfl ?_
    refine Jvm.OwnW.ifNo O8 at_156 (feq0 (show ¬ ((1 : Int32) = (0 : Int32)) from (by decide))).1 (q := 159) rfl ?_
    refine Jvm.OwnW.aload O8 at_159 rfl rfl (q := 161) rfl ?_
    refine Jvm.OwnW.callV0 O8 (y := (⟨"com/example/occupancy/occupancy/cell/internal/BitCells", "wordCount", "()J"⟩ : MethodName)) (z := (⟨"com/example/occupancy/occupancy/cell/internal/BitCells", "wordCount", "()J"⟩ : MethodName)) (a := a5) (argsL := []) (rest := []) at_161 (hw _ (List.mem_of_getElem? (i := 53) rfl)) (hw _ (List.mem_of_getElem? (i := 54) rfl)) (hw _ (List.mem_of_getElem? (i := 56) rfl)) rfl (hw _ (List.mem_of_getElem? (i := 55) rfl)) (hw _ (List.mem_of_getElem? (i := 6) rfl)) (hw _ (List.mem_of_getElem? (i := 57) rfl)) (by decide) (rm_n l Z a0 hw a5 al wc nn _ h8 E_a5 F_words_a5 V_al hnn) E_a5 rfl pd_9 rfl (hst := rfl) (W := 0) (Nat.le_of_eq rfl) (by decide) (by decide) (c2 := 5) (s2 := 49) rfl rfl (by decide) (by decide) rfl rfl (q := 164) rfl ?_
    intro v9 T9 O9 q9
    obtain rfl := q9
    show Go C _ _ _ _ (T9.setTop (mkF C.m 164 #[.val (.int p0), .val (.int p1), .val (.long p2), .second, .val (.long p4), .second, .val (.long p6), .second, .val (.long p8), .second, .val (.long m), .second, .val (.int wc), .val (.long sp), .second, .val (.long xa), .second, .val (.long xb), .second, .val (.long xc), .second, .val (.int (0 : Int32)), .val (.ref a1), .val (.ref a5), .val (.int (1 : Int32))] [(.long wc.toInt64)]))
    refine Jvm.OwnW.iload O9 at_164 rfl (q := 166) rfl ?_
    refine Jvm.OwnW.i2l O9 at_166 rfl (q := 167) rfl ?_
    refine Jvm.OwnW.lcmp O9 at_167 rfl (q := 168) rfl ?_
    refine Jvm.OwnW.ifNo O9 at_168 (teqL (show wc.toInt64 = wc.toInt64 from rfl)).2 (q := 171) rfl ?_
    refine Jvm.OwnW.iconst O9 at_171 (r := (1 : Int32)) rfl (q := 172) rfl ?_
    refine Jvm.OwnW.goto O9 at_172 (by decide) (q := 176) rfl ?_
    refine Jvm.OwnW.istore O9 at_176 (L' := #[.val (.int p0), .val (.int p1), .val (.long p2), .second, .val (.long p4), .second, .val (.long p6), .second, .val (.long p8), .second, .val (.long m), .second, .val (.int wc), .val (.long sp), .second, .val (.long xa), .second, .val (.long xb), .second, .val (.long xc), .second, .val (.int (0 : Int32)), .val (.ref a1), .val (.ref a5), .val (.int (1 : Int32))]) rfl (q := 178) rfl ?_
    refine Jvm.OwnW.iload O9 at_178 rfl (q := 180) rfl ?_
    refine Jvm.OwnW.ifNo O9 at_180 (feq0 (show ¬ ((1 : Int32) = (0 : Int32)) from (by decide))).1 (q := 183) rfl ?_
    refine Jvm.OwnW.aload O9 at_183 rfl rfl (q := 185) rfl ?_
    refine Jvm.OwnW.iconst O9 at_185 (r := (0 : Int32)) rfl (q := 186) rfl ?_
    refine Jvm.OwnW.callV0 O9 (y := (⟨"com/example/occupancy/occupancy/cell/internal/BitCells", "word", "(I)J"⟩ : MethodName)) (z := (⟨"com/example/occupancy/occupancy/cell/internal/BitCells", "word", "(I)J"⟩ : MethodName)) (a := a5) (argsL := [(.int (0 : Int32))]) (rest := []) at_186 (hw _ (List.mem_of_getElem? (i := 58) rfl)) (hw _ (List.mem_of_getElem? (i := 59) rfl)) (hw _ (List.mem_of_getElem? (i := 61) rfl)) rfl (hw _ (List.mem_of_getElem? (i := 60) rfl)) (hw _ (List.mem_of_getElem? (i := 6) rfl)) (hw _ (List.mem_of_getElem? (i := 62) rfl)) (by decide) (rm_o l Z a0 hw a5 (0 : Int32) al 0 nn (own_g p8) h8 E_a5 F_words_a5 V_al rfl hn1) E_a5 rfl pd_10 rfl (hst := rfl) (W := 0) (Nat.le_of_eq rfl) (by decide) (by decide) (c2 := 5) (s2 := 49) rfl rfl (by decide) (by decide) rfl rfl (q := 189) rfl ?_
    intro v10 T10 O10 q10
    obtain rfl := q10
    show Go C _ _ _ _ (T10.setTop (mkF C.m 189 #[.val (.int p0), .val (.int p1), .val (.long p2), .second, .val (.long p4), .second, .val (.long p6), .second, .val (.long p8), .second, .val (.long m), .second, .val (.int wc), .val (.long sp), .second, .val (.long xa), .second, .val (.long xb), .second, .val (.long xc), .second, .val (.int (0 : Int32)), .val (.ref a1), .val (.ref a5), .val (.int (1 : Int32))] [(.long ((own_g p8) 0))]))
    refine Jvm.OwnW.iconst O10 at_189 (r := (0 : Int32)) rfl (q := 190) rfl ?_
    refine Jvm.OwnW.lload O10 at_190 rfl (q := 192) rfl ?_
    refine Jvm.OwnW.lload O10 at_192 rfl (q := 194) rfl ?_
    refine Jvm.OwnW.lload O10 at_194 rfl (q := 196) rfl ?_
    refine Jvm.OwnW.lload O10 at_196 rfl (q := 198) rfl ?_
    refine Jvm.OwnW.iload O10 at_198 rfl (q := 200) rfl ?_
    refine Jvm.OwnW.callS0 O10 (y := (⟨"com/example/occupancy/occupancy/cell/internal/BitCellsSetAllPinLaw", "expected", "(IJJJJI)J"⟩ : MethodName)) (argsL := [(.int (0 : Int32)), (.long p8), (.long xa), (.long xb), (.long xc), (.int (0 : Int32))]) (rest := [(.long ((own_g p8) 0))]) at_200 (hw _ (List.mem_of_getElem? (i := 63) rfl)) (hw _ (List.mem_of_getElem? (i := 64) rfl)) (hw _ (List.mem_of_getElem? (i := 65) rfl)) (hw _ (List.mem_of_getElem? (i := 66) rfl)) (by decide) (rm_e l Z a0 hw (0 : Int32) p8 xa xb xc (0 : Int32) h8) rfl pd_11 rfl (hst := rfl) (W := 2) (Nat.le_of_eq rfl) (by decide) (by decide) (c2 := 5) (s2 := 49) rfl rfl (by decide) (by decide) rfl rfl (q := 203) rfl ?_
    intro v11 T11 O11 q11
    obtain rfl := q11
    show Go C _ _ _ _ (T11.setTop (mkF C.m 203 #[.val (.int p0), .val (.int p1), .val (.long p2), .second, .val (.long p4), .second, .val (.long p6), .second, .val (.long p8), .second, .val (.long m), .second, .val (.int wc), .val (.long sp), .second, .val (.long xa), .second, .val (.long xb), .second, .val (.long xc), .second, .val (.int (0 : Int32)), .val (.ref a1), .val (.ref a5), .val (.int (1 : Int32))] [(.long (fn_e (0 : Int32) p8 xa xb xc (0 : Int32))), (.long ((own_g p8) 0))]))
    refine Jvm.OwnW.lcmp O11 at_203 rfl (q := 204) rfl ?_
    refine Jvm.OwnW.ifNo O11 at_204 (teqL (show ((own_g p8) 0) = (fn_e (0 : Int32) p8 xa xb xc (0 : Int32)) from (by have q := own_e0 p8 xa xb xc xan xbn xcn hxan hxbn hxcn (0 : Int32) 0 rfl; (try simp only [hqa, hqb, hqc] at q); exact q))).2 (q := 207) rfl ?_
    refine Jvm.OwnW.iconst O11 at_207 (r := (1 : Int32)) rfl (q := 208) rfl ?_
    refine Jvm.OwnW.goto O11 at_208 (by decide) (q := 212) rfl ?_
    refine Jvm.OwnW.istore O11 at_212 (L' := #[.val (.int p0), .val (.int p1), .val (.long p2), .second, .val (.long p4), .second, .val (.long p6), .second, .val (.long p8), .second, .val (.long m), .second, .val (.int wc), .val (.long sp), .second, .val (.long xa), .second, .val (.long xb), .second, .val (.long xc), .second, .val (.int (0 : Int32)), .val (.ref a1), .val (.ref a5), .val (.int (1 : Int32))]) rfl (q := 214) rfl ?_
    refine Jvm.OwnW.iload O11 at_214 rfl (q := 216) rfl ?_
    refine Jvm.OwnW.iconst O11 at_216 (r := (1 : Int32)) rfl (q := 217) rfl ?_
    by_cases hc217 : (1 : Int32) < wc
    · refine Jvm.OwnW.icmpNo O11 at_217 (tlt hc217).2.2.2 (q := 220) rfl ?_
      refine Jvm.OwnW.iload O11 at_220 rfl (q := 222) rfl ?_
      refine Jvm.OwnW.ifNo O11 at_222 (feq0 (show ¬ ((1 : Int32) = (0 : Int32)) from (by decide))).1 (q := 225) rfl ?_
      refine Jvm.OwnW.aload O11 at_225 rfl rfl (q := 227) rfl ?_
      refine Jvm.OwnW.iconst O11 at_227 (r := (1 : Int32)) rfl (q := 228) rfl ?_
      refine Jvm.OwnW.callV0 O11 (y := (⟨"com/example/occupancy/occupancy/cell/internal/BitCells", "word", "(I)J"⟩ : MethodName)) (z := (⟨"com/example/occupancy/occupancy/cell/internal/BitCells", "word", "(I)J"⟩ : MethodName)) (a := a5) (argsL := [(.int (1 : Int32))]) (rest := []) at_228 (hw _ (List.mem_of_getElem? (i := 58) rfl)) (hw _ (List.mem_of_getElem? (i := 59) rfl)) (hw _ (List.mem_of_getElem? (i := 61) rfl)) rfl (hw _ (List.mem_of_getElem? (i := 60) rfl)) (hw _ (List.mem_of_getElem? (i := 6) rfl)) (hw _ (List.mem_of_getElem? (i := 62) rfl)) (by decide) (rm_o l Z a0 hw a5 (1 : Int32) al 1 nn (own_g p8) h8 E_a5 F_words_a5 V_al rfl (by rw [Int32.lt_iff_toInt_lt, hnn] at hc217; have q : (1 : Int32).toInt = 1 := rfl; omega)) E_a5 rfl pd_10 rfl (hst := rfl) (W := 0) (Nat.le_of_eq rfl) (by decide) (by decide) (c2 := 5) (s2 := 49) rfl rfl (by decide) (by decide) rfl rfl (q := 231) rfl ?_
      intro v12 T12 O12 q12
      obtain rfl := q12
      show Go C _ _ _ _ (T12.setTop (mkF C.m 231 #[.val (.int p0), .val (.int p1), .val (.long p2), .second, .val (.long p4), .second, .val (.long p6), .second, .val (.long p8), .second, .val (.long m), .second, .val (.int wc), .val (.long sp), .second, .val (.long xa), .second, .val (.long xb), .second, .val (.long xc), .second, .val (.int (0 : Int32)), .val (.ref a1), .val (.ref a5), .val (.int (1 : Int32))] [(.long ((own_g p8) 1))]))
      refine Jvm.OwnW.iconst O12 at_231 (r := (1 : Int32)) rfl (q := 232) rfl ?_
      refine Jvm.OwnW.lload O12 at_232 rfl (q := 234) rfl ?_
      refine Jvm.OwnW.lload O12 at_234 rfl (q := 236) rfl ?_
      refine Jvm.OwnW.lload O12 at_236 rfl (q := 238) rfl ?_
      refine Jvm.OwnW.lload O12 at_238 rfl (q := 240) rfl ?_
      refine Jvm.OwnW.iload O12 at_240 rfl (q := 242) rfl ?_
      refine Jvm.OwnW.callS0 O12 (y := (⟨"com/example/occupancy/occupancy/cell/internal/BitCellsSetAllPinLaw", "expected", "(IJJJJI)J"⟩ : MethodName)) (argsL := [(.int (1 : Int32)), (.long p8), (.long xa), (.long xb), (.long xc), (.int (0 : Int32))]) (rest := [(.long ((own_g p8) 1))]) at_242 (hw _ (List.mem_of_getElem? (i := 63) rfl)) (hw _ (List.mem_of_getElem? (i := 64) rfl)) (hw _ (List.mem_of_getElem? (i := 65) rfl)) (hw _ (List.mem_of_getElem? (i := 66) rfl)) (by decide) (rm_e l Z a0 hw (1 : Int32) p8 xa xb xc (0 : Int32) h8) rfl pd_11 rfl (hst := rfl) (W := 2) (Nat.le_of_eq rfl) (by decide) (by decide) (c2 := 5) (s2 := 49) rfl rfl (by decide) (by decide) rfl rfl (q := 245) rfl ?_
      intro v13 T13 O13 q13
      obtain rfl := q13
      show Go C _ _ _ _ (T13.setTop (mkF C.m 245 #[.val (.int p0), .val (.int p1), .val (.long p2), .second, .val (.long p4), .second, .val (.long p6), .second, .val (.long p8), .second, .val (.long m), .second, .val (.int wc), .val (.long sp), .second, .val (.long xa), .second, .val (.long xb), .second, .val (.long xc), .second, .val (.int (0 : Int32)), .val (.ref a1), .val (.ref a5), .val (.int (1 : Int32))] [(.long (fn_e (1 : Int32) p8 xa xb xc (0 : Int32))), (.long ((own_g p8) 1))]))
      refine Jvm.OwnW.lcmp O13 at_245 rfl (q := 246) rfl ?_
      refine Jvm.OwnW.ifNo O13 at_246 (teqL (show ((own_g p8) 1) = (fn_e (1 : Int32) p8 xa xb xc (0 : Int32)) from (by have q := own_e0 p8 xa xb xc xan xbn xcn hxan hxbn hxcn (1 : Int32) 1 rfl; (try simp only [hqa, hqb, hqc] at q); exact q))).2 (q := 249) rfl ?_
      refine Jvm.OwnW.iconst O13 at_249 (r := (1 : Int32)) rfl (q := 250) rfl ?_
      refine Jvm.OwnW.goto O13 at_250 (by decide) (q := 254) rfl ?_
      refine Jvm.OwnW.istore O13 at_254 (L' := #[.val (.int p0), .val (.int p1), .val (.long p2), .second, .val (.long p4), .second, .val (.long p6), .second, .val (.long p8), .second, .val (.long m), .second, .val (.int wc), .val (.long sp), .second, .val (.long xa), .second, .val (.long xb), .second, .val (.long xc), .second, .val (.int (0 : Int32)), .val (.ref a1), .val (.ref a5), .val (.int (1 : Int32))]) rfl (q := 256) rfl ?_
      refine Jvm.OwnW.iload O13 at_256 rfl (q := 258) rfl ?_
      refine Jvm.OwnW.iconst O13 at_258 (r := (2 : Int32)) rfl (q := 259) rfl ?_
      by_cases hc259 : (2 : Int32) < wc
      · refine Jvm.OwnW.icmpNo O13 at_259 (tlt hc259).2.2.2 (q := 262) rfl ?_
        refine Jvm.OwnW.iload O13 at_262 rfl (q := 264) rfl ?_
        refine Jvm.OwnW.ifNo O13 at_264 (feq0 (show ¬ ((1 : Int32) = (0 : Int32)) from (by decide))).1 (q := 267) rfl ?_
        refine Jvm.OwnW.aload O13 at_267 rfl rfl (q := 269) rfl ?_
        refine Jvm.OwnW.iconst O13 at_269 (r := (2 : Int32)) rfl (q := 270) rfl ?_
        refine Jvm.OwnW.callV0 O13 (y := (⟨"com/example/occupancy/occupancy/cell/internal/BitCells", "word", "(I)J"⟩ : MethodName)) (z := (⟨"com/example/occupancy/occupancy/cell/internal/BitCells", "word", "(I)J"⟩ : MethodName)) (a := a5) (argsL := [(.int (2 : Int32))]) (rest := []) at_270 (hw _ (List.mem_of_getElem? (i := 58) rfl)) (hw _ (List.mem_of_getElem? (i := 59) rfl)) (hw _ (List.mem_of_getElem? (i := 61) rfl)) rfl (hw _ (List.mem_of_getElem? (i := 60) rfl)) (hw _ (List.mem_of_getElem? (i := 6) rfl)) (hw _ (List.mem_of_getElem? (i := 62) rfl)) (by decide) (rm_o l Z a0 hw a5 (2 : Int32) al 2 nn (own_g p8) h8 E_a5 F_words_a5 V_al rfl (by rw [Int32.lt_iff_toInt_lt, hnn] at hc259; have q : (2 : Int32).toInt = 2 := rfl; omega)) E_a5 rfl pd_10 rfl (hst := rfl) (W := 0) (Nat.le_of_eq rfl) (by decide) (by decide) (c2 := 5) (s2 := 49) rfl rfl (by decide) (by decide) rfl rfl (q := 273) rfl ?_
        intro v14 T14 O14 q14
        obtain rfl := q14
        show Go C _ _ _ _ (T14.setTop (mkF C.m 273 #[.val (.int p0), .val (.int p1), .val (.long p2), .second, .val (.long p4), .second, .val (.long p6), .second, .val (.long p8), .second, .val (.long m), .second, .val (.int wc), .val (.long sp), .second, .val (.long xa), .second, .val (.long xb), .second, .val (.long xc), .second, .val (.int (0 : Int32)), .val (.ref a1), .val (.ref a5), .val (.int (1 : Int32))] [(.long ((own_g p8) 2))]))
        refine Jvm.OwnW.iconst O14 at_273 (r := (2 : Int32)) rfl (q := 274) rfl ?_
        refine Jvm.OwnW.lload O14 at_274 rfl (q := 276) rfl ?_
        refine Jvm.OwnW.lload O14 at_276 rfl (q := 278) rfl ?_
        refine Jvm.OwnW.lload O14 at_278 rfl (q := 280) rfl ?_
        refine Jvm.OwnW.lload O14 at_280 rfl (q := 282) rfl ?_
        refine Jvm.OwnW.iload O14 at_282 rfl (q := 284) rfl ?_
        refine Jvm.OwnW.callS0 O14 (y := (⟨"com/example/occupancy/occupancy/cell/internal/BitCellsSetAllPinLaw", "expected", "(IJJJJI)J"⟩ : MethodName)) (argsL := [(.int (2 : Int32)), (.long p8), (.long xa), (.long xb), (.long xc), (.int (0 : Int32))]) (rest := [(.long ((own_g p8) 2))]) at_284 (hw _ (List.mem_of_getElem? (i := 63) rfl)) (hw _ (List.mem_of_getElem? (i := 64) rfl)) (hw _ (List.mem_of_getElem? (i := 65) rfl)) (hw _ (List.mem_of_getElem? (i := 66) rfl)) (by decide) (rm_e l Z a0 hw (2 : Int32) p8 xa xb xc (0 : Int32) h8) rfl pd_11 rfl (hst := rfl) (W := 2) (Nat.le_of_eq rfl) (by decide) (by decide) (c2 := 5) (s2 := 49) rfl rfl (by decide) (by decide) rfl rfl (q := 287) rfl ?_
        intro v15 T15 O15 q15
        obtain rfl := q15
        show Go C _ _ _ _ (T15.setTop (mkF C.m 287 #[.val (.int p0), .val (.int p1), .val (.long p2), .second, .val (.long p4), .second, .val (.long p6), .second, .val (.long p8), .second, .val (.long m), .second, .val (.int wc), .val (.long sp), .second, .val (.long xa), .second, .val (.long xb), .second, .val (.long xc), .second, .val (.int (0 : Int32)), .val (.ref a1), .val (.ref a5), .val (.int (1 : Int32))] [(.long (fn_e (2 : Int32) p8 xa xb xc (0 : Int32))), (.long ((own_g p8) 2))]))
        refine Jvm.OwnW.lcmp O15 at_287 rfl (q := 288) rfl ?_
        refine Jvm.OwnW.ifNo O15 at_288 (teqL (show ((own_g p8) 2) = (fn_e (2 : Int32) p8 xa xb xc (0 : Int32)) from (by have q := own_e0 p8 xa xb xc xan xbn xcn hxan hxbn hxcn (2 : Int32) 2 rfl; (try simp only [hqa, hqb, hqc] at q); exact q))).2 (q := 291) rfl ?_
        refine Jvm.OwnW.iconst O15 at_291 (r := (1 : Int32)) rfl (q := 292) rfl ?_
        refine Jvm.OwnW.goto O15 at_292 (by decide) (q := 296) rfl ?_
        refine Jvm.OwnW.istore O15 at_296 (L' := #[.val (.int p0), .val (.int p1), .val (.long p2), .second, .val (.long p4), .second, .val (.long p6), .second, .val (.long p8), .second, .val (.long m), .second, .val (.int wc), .val (.long sp), .second, .val (.long xa), .second, .val (.long xb), .second, .val (.long xc), .second, .val (.int (0 : Int32)), .val (.ref a1), .val (.ref a5), .val (.int (1 : Int32))]) rfl (q := 298) rfl ?_
        refine Jvm.OwnW.iload O15 at_298 rfl (q := 300) rfl ?_
        refine Jvm.OwnW.iconst O15 at_300 (r := (3 : Int32)) rfl (q := 301) rfl ?_
        by_cases hc301 : (3 : Int32) < wc
        · refine Jvm.OwnW.icmpNo O15 at_301 (tlt hc301).2.2.2 (q := 304) rfl ?_
          refine Jvm.OwnW.iload O15 at_304 rfl (q := 306) rfl ?_
          refine Jvm.OwnW.ifNo O15 at_306 (feq0 (show ¬ ((1 : Int32) = (0 : Int32)) from (by decide))).1 (q := 309) rfl ?_
          refine Jvm.OwnW.aload O15 at_309 rfl rfl (q := 311) rfl ?_
          refine Jvm.OwnW.iconst O15 at_311 (r := (3 : Int32)) rfl (q := 312) rfl ?_
          refine Jvm.OwnW.callV0 O15 (y := (⟨"com/example/occupancy/occupancy/cell/internal/BitCells", "word", "(I)J"⟩ : MethodName)) (z := (⟨"com/example/occupancy/occupancy/cell/internal/BitCells", "word", "(I)J"⟩ : MethodName)) (a := a5) (argsL := [(.int (3 : Int32))]) (rest := []) at_312 (hw _ (List.mem_of_getElem? (i := 58) rfl)) (hw _ (List.mem_of_getElem? (i := 59) rfl)) (hw _ (List.mem_of_getElem? (i := 61) rfl)) rfl (hw _ (List.mem_of_getElem? (i := 60) rfl)) (hw _ (List.mem_of_getElem? (i := 6) rfl)) (hw _ (List.mem_of_getElem? (i := 62) rfl)) (by decide) (rm_o l Z a0 hw a5 (3 : Int32) al 3 nn (own_g p8) h8 E_a5 F_words_a5 V_al rfl (by rw [Int32.lt_iff_toInt_lt, hnn] at hc301; have q : (3 : Int32).toInt = 3 := rfl; omega)) E_a5 rfl pd_10 rfl (hst := rfl) (W := 0) (Nat.le_of_eq rfl) (by decide) (by decide) (c2 := 5) (s2 := 49) rfl rfl (by decide) (by decide) rfl rfl (q := 315) rfl ?_
          intro v16 T16 O16 q16
          obtain rfl := q16
          show Go C _ _ _ _ (T16.setTop (mkF C.m 315 #[.val (.int p0), .val (.int p1), .val (.long p2), .second, .val (.long p4), .second, .val (.long p6), .second, .val (.long p8), .second, .val (.long m), .second, .val (.int wc), .val (.long sp), .second, .val (.long xa), .second, .val (.long xb), .second, .val (.long xc), .second, .val (.int (0 : Int32)), .val (.ref a1), .val (.ref a5), .val (.int (1 : Int32))] [(.long ((own_g p8) 3))]))
          refine Jvm.OwnW.iconst O16 at_315 (r := (3 : Int32)) rfl (q := 316) rfl ?_
          refine Jvm.OwnW.lload O16 at_316 rfl (q := 318) rfl ?_
          refine Jvm.OwnW.lload O16 at_318 rfl (q := 320) rfl ?_
          refine Jvm.OwnW.lload O16 at_320 rfl (q := 322) rfl ?_
          refine Jvm.OwnW.lload O16 at_322 rfl (q := 324) rfl ?_
          refine Jvm.OwnW.iload O16 at_324 rfl (q := 326) rfl ?_
          refine Jvm.OwnW.callS0 O16 (y := (⟨"com/example/occupancy/occupancy/cell/internal/BitCellsSetAllPinLaw", "expected", "(IJJJJI)J"⟩ : MethodName)) (argsL := [(.int (3 : Int32)), (.long p8), (.long xa), (.long xb), (.long xc), (.int (0 : Int32))]) (rest := [(.long ((own_g p8) 3))]) at_326 (hw _ (List.mem_of_getElem? (i := 63) rfl)) (hw _ (List.mem_of_getElem? (i := 64) rfl)) (hw _ (List.mem_of_getElem? (i := 65) rfl)) (hw _ (List.mem_of_getElem? (i := 66) rfl)) (by decide) (rm_e l Z a0 hw (3 : Int32) p8 xa xb xc (0 : Int32) h8) rfl pd_11 rfl (hst := rfl) (W := 2) (Nat.le_of_eq rfl) (by decide) (by decide) (c2 := 5) (s2 := 49) rfl rfl (by decide) (by decide) rfl rfl (q := 329) rfl ?_
          intro v17 T17 O17 q17
          obtain rfl := q17
          show Go C _ _ _ _ (T17.setTop (mkF C.m 329 #[.val (.int p0), .val (.int p1), .val (.long p2), .second, .val (.long p4), .second, .val (.long p6), .second, .val (.long p8), .second, .val (.long m), .second, .val (.int wc), .val (.long sp), .second, .val (.long xa), .second, .val (.long xb), .second, .val (.long xc), .second, .val (.int (0 : Int32)), .val (.ref a1), .val (.ref a5), .val (.int (1 : Int32))] [(.long (fn_e (3 : Int32) p8 xa xb xc (0 : Int32))), (.long ((own_g p8) 3))]))
          refine Jvm.OwnW.lcmp O17 at_329 rfl (q := 330) rfl ?_
          refine Jvm.OwnW.ifNo O17 at_330 (teqL (show ((own_g p8) 3) = (fn_e (3 : Int32) p8 xa xb xc (0 : Int32)) from (by have q := own_e0 p8 xa xb xc xan xbn xcn hxan hxbn hxcn (3 : Int32) 3 rfl; (try simp only [hqa, hqb, hqc] at q); exact q))).2 (q := 333) rfl ?_
          refine Jvm.OwnW.iconst O17 at_333 (r := (1 : Int32)) rfl (q := 334) rfl ?_
          refine Jvm.OwnW.goto O17 at_334 (by decide) (q := 338) rfl ?_
          refine Jvm.OwnW.istore O17 at_338 (L' := #[.val (.int p0), .val (.int p1), .val (.long p2), .second, .val (.long p4), .second, .val (.long p6), .second, .val (.long p8), .second, .val (.long m), .second, .val (.int wc), .val (.long sp), .second, .val (.long xa), .second, .val (.long xb), .second, .val (.long xc), .second, .val (.int (0 : Int32)), .val (.ref a1), .val (.ref a5), .val (.int (1 : Int32))]) rfl (q := 340) rfl ?_
          refine Jvm.OwnW.iload O17 at_340 rfl (q := 342) rfl ?_
          exact Jvm.OwnW.retB O17 at_342 rfl (Or.inr rfl) (by decide) (by decide) rfl
        · refine Jvm.OwnW.icmpYes O15 at_301 (flt hc301).2.2.2 (by decide) (q := 340) rfl ?_
          refine Jvm.OwnW.iload O15 at_340 rfl (q := 342) rfl ?_
          exact Jvm.OwnW.retB O15 at_342 rfl (Or.inr rfl) (by decide) (by decide) rfl
      · refine Jvm.OwnW.icmpYes O13 at_259 (flt hc259).2.2.2 (by decide) (q := 298) rfl ?_
        refine Jvm.OwnW.iload O13 at_298 rfl (q := 300) rfl ?_
        refine Jvm.OwnW.iconst O13 at_300 (r := (3 : Int32)) rfl (q := 301) rfl ?_
        by_cases hc301 : (3 : Int32) < wc
        · refine Jvm.OwnW.icmpNo O13 at_301 (tlt hc301).2.2.2 (q := 304) rfl ?_
          refine Jvm.OwnW.iload O13 at_304 rfl (q := 306) rfl ?_
          refine Jvm.OwnW.ifNo O13 at_306 (feq0 (show ¬ ((1 : Int32) = (0 : Int32)) from (by decide))).1 (q := 309) rfl ?_
          refine Jvm.OwnW.aload O13 at_309 rfl rfl (q := 311) rfl ?_
          refine Jvm.OwnW.iconst O13 at_311 (r := (3 : Int32)) rfl (q := 312) rfl ?_
          refine Jvm.OwnW.callV0 O13 (y := (⟨"com/example/occupancy/occupancy/cell/internal/BitCells", "word", "(I)J"⟩ : MethodName)) (z := (⟨"com/example/occupancy/occupancy/cell/internal/BitCells", "word", "(I)J"⟩ : MethodName)) (a := a5) (argsL := [(.int (3 : Int32))]) (rest := []) at_312 (hw _ (List.mem_of_getElem? (i := 58) rfl)) (hw _ (List.mem_of_getElem? (i := 59) rfl)) (hw _ (List.mem_of_getElem? (i := 61) rfl)) rfl (hw _ (List.mem_of_getElem? (i := 60) rfl)) (hw _ (List.mem_of_getElem? (i := 6) rfl)) (hw _ (List.mem_of_getElem? (i := 62) rfl)) (by decide) (rm_o l Z a0 hw a5 (3 : Int32) al 3 nn (own_g p8) h8 E_a5 F_words_a5 V_al rfl (by rw [Int32.lt_iff_toInt_lt, hnn] at hc301; have q : (3 : Int32).toInt = 3 := rfl; omega)) E_a5 rfl pd_10 rfl (hst := rfl) (W := 0) (Nat.le_of_eq rfl) (by decide) (by decide) (c2 := 5) (s2 := 49) rfl rfl (by decide) (by decide) rfl rfl (q := 315) rfl ?_
          intro v18 T18 O18 q18
          obtain rfl := q18
          show Go C _ _ _ _ (T18.setTop (mkF C.m 315 #[.val (.int p0), .val (.int p1), .val (.long p2), .second, .val (.long p4), .second, .val (.long p6), .second, .val (.long p8), .second, .val (.long m), .second, .val (.int wc), .val (.long sp), .second, .val (.long xa), .second, .val (.long xb), .second, .val (.long xc), .second, .val (.int (0 : Int32)), .val (.ref a1), .val (.ref a5), .val (.int (1 : Int32))] [(.long ((own_g p8) 3))]))
          refine Jvm.OwnW.iconst O18 at_315 (r := (3 : Int32)) rfl (q := 316) rfl ?_
          refine Jvm.OwnW.lload O18 at_316 rfl (q := 318) rfl ?_
          refine Jvm.OwnW.lload O18 at_318 rfl (q := 320) rfl ?_
          refine Jvm.OwnW.lload O18 at_320 rfl (q := 322) rfl ?_
          refine Jvm.OwnW.lload O18 at_322 rfl (q := 324) rfl ?_
          refine Jvm.OwnW.iload O18 at_324 rfl (q := 326) rfl ?_
          refine Jvm.OwnW.callS0 O18 (y := (⟨"com/example/occupancy/occupancy/cell/internal/BitCellsSetAllPinLaw", "expected", "(IJJJJI)J"⟩ : MethodName)) (argsL := [(.int (3 : Int32)), (.long p8), (.long xa), (.long xb), (.long xc), (.int (0 : Int32))]) (rest := [(.long ((own_g p8) 3))]) at_326 (hw _ (List.mem_of_getElem? (i := 63) rfl)) (hw _ (List.mem_of_getElem? (i := 64) rfl)) (hw _ (List.mem_of_getElem? (i := 65) rfl)) (hw _ (List.mem_of_getElem? (i := 66) rfl)) (by decide) (rm_e l Z a0 hw (3 : Int32) p8 xa xb xc (0 : Int32) h8) rfl pd_11 rfl (hst := rfl) (W := 2) (Nat.le_of_eq rfl) (by decide) (by decide) (c2 := 5) (s2 := 49) rfl rfl (by decide) (by decide) rfl rfl (q := 329) rfl ?_
          intro v19 T19 O19 q19
          obtain rfl := q19
          show Go C _ _ _ _ (T19.setTop (mkF C.m 329 #[.val (.int p0), .val (.int p1), .val (.long p2), .second, .val (.long p4), .second, .val (.long p6), .second, .val (.long p8), .second, .val (.long m), .second, .val (.int wc), .val (.long sp), .second, .val (.long xa), .second, .val (.long xb), .second, .val (.long xc), .second, .val (.int (0 : Int32)), .val (.ref a1), .val (.ref a5), .val (.int (1 : Int32))] [(.long (fn_e (3 : Int32) p8 xa xb xc (0 : Int32))), (.long ((own_g p8) 3))]))
          refine Jvm.OwnW.lcmp O19 at_329 rfl (q := 330) rfl ?_
          refine Jvm.OwnW.ifNo O19 at_330 (teqL (show ((own_g p8) 3) = (fn_e (3 : Int32) p8 xa xb xc (0 : Int32)) from (by have q := own_e0 p8 xa xb xc xan xbn xcn hxan hxbn hxcn (3 : Int32) 3 rfl; (try simp only [hqa, hqb, hqc] at q); exact q))).2 (q := 333) rfl ?_
          refine Jvm.OwnW.iconst O19 at_333 (r := (1 : Int32)) rfl (q := 334) rfl ?_
          refine Jvm.OwnW.goto O19 at_334 (by decide) (q := 338) rfl ?_
          refine Jvm.OwnW.istore O19 at_338 (L' := #[.val (.int p0), .val (.int p1), .val (.long p2), .second, .val (.long p4), .second, .val (.long p6), .second, .val (.long p8), .second, .val (.long m), .second, .val (.int wc), .val (.long sp), .second, .val (.long xa), .second, .val (.long xb), .second, .val (.long xc), .second, .val (.int (0 : Int32)), .val (.ref a1), .val (.ref a5), .val (.int (1 : Int32))]) rfl (q := 340) rfl ?_
          refine Jvm.OwnW.iload O19 at_340 rfl (q := 342) rfl ?_
          exact Jvm.OwnW.retB O19 at_342 rfl (Or.inr rfl) (by decide) (by decide) rfl
        · refine Jvm.OwnW.icmpYes O13 at_301 (flt hc301).2.2.2 (by decide) (q := 340) rfl ?_
          refine Jvm.OwnW.iload O13 at_340 rfl (q := 342) rfl ?_
          exact Jvm.OwnW.retB O13 at_342 rfl (Or.inr rfl) (by decide) (by decide) rfl
    · refine Jvm.OwnW.icmpYes O11 at_217 (flt hc217).2.2.2 (by decide) (q := 256) rfl ?_
      refine Jvm.OwnW.iload O11 at_256 rfl (q := 258) rfl ?_
      refine Jvm.OwnW.iconst O11 at_258 (r := (2 : Int32)) rfl (q := 259) rfl ?_
      by_cases hc259 : (2 : Int32) < wc
      · refine Jvm.OwnW.icmpNo O11 at_259 (tlt hc259).2.2.2 (q := 262) rfl ?_
        refine Jvm.OwnW.iload O11 at_262 rfl (q := 264) rfl ?_
        refine Jvm.OwnW.ifNo O11 at_264 (feq0 (show ¬ ((1 : Int32) = (0 : Int32)) from (by decide))).1 (q := 267) rfl ?_
        refine Jvm.OwnW.aload O11 at_267 rfl rfl (q := 269) rfl ?_
        refine Jvm.OwnW.iconst O11 at_269 (r := (2 : Int32)) rfl (q := 270) rfl ?_
        refine Jvm.OwnW.callV0 O11 (y := (⟨"com/example/occupancy/occupancy/cell/internal/BitCells", "word", "(I)J"⟩ : MethodName)) (z := (⟨"com/example/occupancy/occupancy/cell/internal/BitCells", "word", "(I)J"⟩ : MethodName)) (a := a5) (argsL := [(.int (2 : Int32))]) (rest := []) at_270 (hw _ (List.mem_of_getElem? (i := 58) rfl)) (hw _ (List.mem_of_getElem? (i := 59) rfl)) (hw _ (List.mem_of_getElem? (i := 61) rfl)) rfl (hw _ (List.mem_of_getElem? (i := 60) rfl)) (hw _ (List.mem_of_getElem? (i := 6) rfl)) (hw _ (List.mem_of_getElem? (i := 62) rfl)) (by decide) (rm_o l Z a0 hw a5 (2 : Int32) al 2 nn (own_g p8) h8 E_a5 F_words_a5 V_al rfl (by rw [Int32.lt_iff_toInt_lt, hnn] at hc259; have q : (2 : Int32).toInt = 2 := rfl; omega)) E_a5 rfl pd_10 rfl (hst := rfl) (W := 0) (Nat.le_of_eq rfl) (by decide) (by decide) (c2 := 5) (s2 := 49) rfl rfl (by decide) (by decide) rfl rfl (q := 273) rfl ?_
        intro v20 T20 O20 q20
        obtain rfl := q20
        show Go C _ _ _ _ (T20.setTop (mkF C.m 273 #[.val (.int p0), .val (.int p1), .val (.long p2), .second, .val (.long p4), .second, .val (.long p6), .second, .val (.long p8), .second, .val (.long m), .second, .val (.int wc), .val (.long sp), .second, .val (.long xa), .second, .val (.long xb), .second, .val (.long xc), .second, .val (.int (0 : Int32)), .val (.ref a1), .val (.ref a5), .val (.int (1 : Int32))] [(.long ((own_g p8) 2))]))
        refine Jvm.OwnW.iconst O20 at_273 (r := (2 : Int32)) rfl (q := 274) rfl ?_
        refine Jvm.OwnW.lload O20 at_274 rfl (q := 276) rfl ?_
        refine Jvm.OwnW.lload O20 at_276 rfl (q := 278) rfl ?_
        refine Jvm.OwnW.lload O20 at_278 rfl (q := 280) rfl ?_
        refine Jvm.OwnW.lload O20 at_280 rfl (q := 282) rfl ?_
        refine Jvm.OwnW.iload O20 at_282 rfl (q := 284) rfl ?_
        refine Jvm.OwnW.callS0 O20 (y := (⟨"com/example/occupancy/occupancy/cell/internal/BitCellsSetAllPinLaw", "expected", "(IJJJJI)J"⟩ : MethodName)) (argsL := [(.int (2 : Int32)), (.long p8), (.long xa), (.long xb), (.long xc), (.int (0 : Int32))]) (rest := [(.long ((own_g p8) 2))]) at_284 (hw _ (List.mem_of_getElem? (i := 63) rfl)) (hw _ (List.mem_of_getElem? (i := 64) rfl)) (hw _ (List.mem_of_getElem? (i := 65) rfl)) (hw _ (List.mem_of_getElem? (i := 66) rfl)) (by decide) (rm_e l Z a0 hw (2 : Int32) p8 xa xb xc (0 : Int32) h8) rfl pd_11 rfl (hst := rfl) (W := 2) (Nat.le_of_eq rfl) (by decide) (by decide) (c2 := 5) (s2 := 49) rfl rfl (by decide) (by decide) rfl rfl (q := 287) rfl ?_
        intro v21 T21 O21 q21
        obtain rfl := q21
        show Go C _ _ _ _ (T21.setTop (mkF C.m 287 #[.val (.int p0), .val (.int p1), .val (.long p2), .second, .val (.long p4), .second, .val (.long p6), .second, .val (.long p8), .second, .val (.long m), .second, .val (.int wc), .val (.long sp), .second, .val (.long xa), .second, .val (.long xb), .second, .val (.long xc), .second, .val (.int (0 : Int32)), .val (.ref a1), .val (.ref a5), .val (.int (1 : Int32))] [(.long (fn_e (2 : Int32) p8 xa xb xc (0 : Int32))), (.long ((own_g p8) 2))]))
        refine Jvm.OwnW.lcmp O21 at_287 rfl (q := 288) rfl ?_
        refine Jvm.OwnW.ifNo O21 at_288 (teqL (show ((own_g p8) 2) = (fn_e (2 : Int32) p8 xa xb xc (0 : Int32)) from (by have q := own_e0 p8 xa xb xc xan xbn xcn hxan hxbn hxcn (2 : Int32) 2 rfl; (try simp only [hqa, hqb, hqc] at q); exact q))).2 (q := 291) rfl ?_
        refine Jvm.OwnW.iconst O21 at_291 (r := (1 : Int32)) rfl (q := 292) rfl ?_
        refine Jvm.OwnW.goto O21 at_292 (by decide) (q := 296) rfl ?_
        refine Jvm.OwnW.istore O21 at_296 (L' := #[.val (.int p0), .val (.int p1), .val (.long p2), .second, .val (.long p4), .second, .val (.long p6), .second, .val (.long p8), .second, .val (.long m), .second, .val (.int wc), .val (.long sp), .second, .val (.long xa), .second, .val (.long xb), .second, .val (.long xc), .second, .val (.int (0 : Int32)), .val (.ref a1), .val (.ref a5), .val (.int (1 : Int32))]) rfl (q := 298) rfl ?_
        refine Jvm.OwnW.iload O21 at_298 rfl (q := 300) rfl ?_
        refine Jvm.OwnW.iconst O21 at_300 (r := (3 : Int32)) rfl (q := 301) rfl ?_
        by_cases hc301 : (3 : Int32) < wc
        · refine Jvm.OwnW.icmpNo O21 at_301 (tlt hc301).2.2.2 (q := 304) rfl ?_
          refine Jvm.OwnW.iload O21 at_304 rfl (q := 306) rfl ?_
          refine Jvm.OwnW.ifNo O21 at_306 (feq0 (show ¬ ((1 : Int32) = (0 : Int32)) from (by decide))).1 (q := 309) rfl ?_
          refine Jvm.OwnW.aload O21 at_309 rfl rfl (q := 311) rfl ?_
          refine Jvm.OwnW.iconst O21 at_311 (r := (3 : Int32)) rfl (q := 312) rfl ?_
          refine Jvm.OwnW.callV0 O21 (y := (⟨"com/example/occupancy/occupancy/cell/internal/BitCells", "word", "(I)J"⟩ : MethodName)) (z := (⟨"com/example/occupancy/occupancy/cell/internal/BitCells", "word", "(I)J"⟩ : MethodName)) (a := a5) (argsL := [(.int (3 : Int32))]) (rest := []) at_312 (hw _ (List.mem_of_getElem? (i := 58) rfl)) (hw _ (List.mem_of_getElem? (i := 59) rfl)) (hw _ (List.mem_of_getElem? (i := 61) rfl)) rfl (hw _ (List.mem_of_getElem? (i := 60) rfl)) (hw _ (List.mem_of_getElem? (i := 6) rfl)) (hw _ (List.mem_of_getElem? (i := 62) rfl)) (by decide) (rm_o l Z a0 hw a5 (3 : Int32) al 3 nn (own_g p8) h8 E_a5 F_words_a5 V_al rfl (by rw [Int32.lt_iff_toInt_lt, hnn] at hc301; have q : (3 : Int32).toInt = 3 := rfl; omega)) E_a5 rfl pd_10 rfl (hst := rfl) (W := 0) (Nat.le_of_eq rfl) (by decide) (by decide) (c2 := 5) (s2 := 49) rfl rfl (by decide) (by decide) rfl rfl (q := 315) rfl ?_
          intro v22 T22 O22 q22
          obtain rfl := q22
          show Go C _ _ _ _ (T22.setTop (mkF C.m 315 #[.val (.int p0), .val (.int p1), .val (.long p2), .second, .val (.long p4), .second, .val (.long p6), .second, .val (.long p8), .second, .val (.long m), .second, .val (.int wc), .val (.long sp), .second, .val (.long xa), .second, .val (.long xb), .second, .val (.long xc), .second, .val (.int (0 : Int32)), .val (.ref a1), .val (.ref a5), .val (.int (1 : Int32))] [(.long ((own_g p8) 3))]))
          refine Jvm.OwnW.iconst O22 at_315 (r := (3 : Int32)) rfl (q := 316) rfl ?_
          refine Jvm.OwnW.lload O22 at_316 rfl (q := 318) rfl ?_
          refine Jvm.OwnW.lload O22 at_318 rfl (q := 320) rfl ?_
          refine Jvm.OwnW.lload O22 at_320 rfl (q := 322) rfl ?_
          refine Jvm.OwnW.lload O22 at_322 rfl (q := 324) rfl ?_
          refine Jvm.OwnW.iload O22 at_324 rfl (q := 326) rfl ?_
          refine Jvm.OwnW.callS0 O22 (y := (⟨"com/example/occupancy/occupancy/cell/internal/BitCellsSetAllPinLaw", "expected", "(IJJJJI)J"⟩ : MethodName)) (argsL := [(.int (3 : Int32)), (.long p8), (.long xa), (.long xb), (.long xc), (.int (0 : Int32))]) (rest := [(.long ((own_g p8) 3))]) at_326 (hw _ (List.mem_of_getElem? (i := 63) rfl)) (hw _ (List.mem_of_getElem? (i := 64) rfl)) (hw _ (List.mem_of_getElem? (i := 65) rfl)) (hw _ (List.mem_of_getElem? (i := 66) rfl)) (by decide) (rm_e l Z a0 hw (3 : Int32) p8 xa xb xc (0 : Int32) h8) rfl pd_11 rfl (hst := rfl) (W := 2) (Nat.le_of_eq rfl) (by decide) (by decide) (c2 := 5) (s2 := 49) rfl rfl (by decide) (by decide) rfl rfl (q := 329) rfl ?_
          intro v23 T23 O23 q23
          obtain rfl := q23
          show Go C _ _ _ _ (T23.setTop (mkF C.m 329 #[.val (.int p0), .val (.int p1), .val (.long p2), .second, .val (.long p4), .second, .val (.long p6), .second, .val (.long p8), .second, .val (.long m), .second, .val (.int wc), .val (.long sp), .second, .val (.long xa), .second, .val (.long xb), .second, .val (.long xc), .second, .val (.int (0 : Int32)), .val (.ref a1), .val (.ref a5), .val (.int (1 : Int32))] [(.long (fn_e (3 : Int32) p8 xa xb xc (0 : Int32))), (.long ((own_g p8) 3))]))
          refine Jvm.OwnW.lcmp O23 at_329 rfl (q := 330) rfl ?_
          refine Jvm.OwnW.ifNo O23 at_330 (teqL (show ((own_g p8) 3) = (fn_e (3 : Int32) p8 xa xb xc (0 : Int32)) from (by have q := own_e0 p8 xa xb xc xan xbn xcn hxan hxbn hxcn (3 : Int32) 3 rfl; (try simp only [hqa, hqb, hqc] at q); exact q))).2 (q := 333) rfl ?_
          refine Jvm.OwnW.iconst O23 at_333 (r := (1 : Int32)) rfl (q := 334) rfl ?_
          refine Jvm.OwnW.goto O23 at_334 (by decide) (q := 338) rfl ?_
          refine Jvm.OwnW.istore O23 at_338 (L' := #[.val (.int p0), .val (.int p1), .val (.long p2), .second, .val (.long p4), .second, .val (.long p6), .second, .val (.long p8), .second, .val (.long m), .second, .val (.int wc), .val (.long sp), .second, .val (.long xa), .second, .val (.long xb), .second, .val (.long xc), .second, .val (.int (0 : Int32)), .val (.ref a1), .val (.ref a5), .val (.int (1 : Int32))]) rfl (q := 340) rfl ?_
          refine Jvm.OwnW.iload O23 at_340 rfl (q := 342) rfl ?_
          exact Jvm.OwnW.retB O23 at_342 rfl (Or.inr rfl) (by decide) (by decide) rfl
        · refine Jvm.OwnW.icmpYes O21 at_301 (flt hc301).2.2.2 (by decide) (q := 340) rfl ?_
          refine Jvm.OwnW.iload O21 at_340 rfl (q := 342) rfl ?_
          exact Jvm.OwnW.retB O21 at_342 rfl (Or.inr rfl) (by decide) (by decide) rfl
      · refine Jvm.OwnW.icmpYes O11 at_259 (flt hc259).2.2.2 (by decide) (q := 298) rfl ?_
        refine Jvm.OwnW.iload O11 at_298 rfl (q := 300) rfl ?_
        refine Jvm.OwnW.iconst O11 at_300 (r := (3 : Int32)) rfl (q := 301) rfl ?_
        by_cases hc301 : (3 : Int32) < wc
        · refine Jvm.OwnW.icmpNo O11 at_301 (tlt hc301).2.2.2 (q := 304) rfl ?_
          refine Jvm.OwnW.iload O11 at_304 rfl (q := 306) rfl ?_
          refine Jvm.OwnW.ifNo O11 at_306 (feq0 (show ¬ ((1 : Int32) = (0 : Int32)) from (by decide))).1 (q := 309) rfl ?_
          refine Jvm.OwnW.aload O11 at_309 rfl rfl (q := 311) rfl ?_
          refine Jvm.OwnW.iconst O11 at_311 (r := (3 : Int32)) rfl (q := 312) rfl ?_
          refine Jvm.OwnW.callV0 O11 (y := (⟨"com/example/occupancy/occupancy/cell/internal/BitCells", "word", "(I)J"⟩ : MethodName)) (z := (⟨"com/example/occupancy/occupancy/cell/internal/BitCells", "word", "(I)J"⟩ : MethodName)) (a := a5) (argsL := [(.int (3 : Int32))]) (rest := []) at_312 (hw _ (List.mem_of_getElem? (i := 58) rfl)) (hw _ (List.mem_of_getElem? (i := 59) rfl)) (hw _ (List.mem_of_getElem? (i := 61) rfl)) rfl (hw _ (List.mem_of_getElem? (i := 60) rfl)) (hw _ (List.mem_of_getElem? (i := 6) rfl)) (hw _ (List.mem_of_getElem? (i := 62) rfl)) (by decide) (rm_o l Z a0 hw a5 (3 : Int32) al 3 nn (own_g p8) h8 E_a5 F_words_a5 V_al rfl (by rw [Int32.lt_iff_toInt_lt, hnn] at hc301; have q : (3 : Int32).toInt = 3 := rfl; omega)) E_a5 rfl pd_10 rfl (hst := rfl) (W := 0) (Nat.le_of_eq rfl) (by decide) (by decide) (c2 := 5) (s2 := 49) rfl rfl (by decide) (by decide) rfl rfl (q := 315) rfl ?_
          intro v24 T24 O24 q24
          obtain rfl := q24
          show Go C _ _ _ _ (T24.setTop (mkF C.m 315 #[.val (.int p0), .val (.int p1), .val (.long p2), .second, .val (.long p4), .second, .val (.long p6), .second, .val (.long p8), .second, .val (.long m), .second, .val (.int wc), .val (.long sp), .second, .val (.long xa), .second, .val (.long xb), .second, .val (.long xc), .second, .val (.int (0 : Int32)), .val (.ref a1), .val (.ref a5), .val (.int (1 : Int32))] [(.long ((own_g p8) 3))]))
          refine Jvm.OwnW.iconst O24 at_315 (r := (3 : Int32)) rfl (q := 316) rfl ?_
          refine Jvm.OwnW.lload O24 at_316 rfl (q := 318) rfl ?_
          refine Jvm.OwnW.lload O24 at_318 rfl (q := 320) rfl ?_
          refine Jvm.OwnW.lload O24 at_320 rfl (q := 322) rfl ?_
          refine Jvm.OwnW.lload O24 at_322 rfl (q := 324) rfl ?_
          refine Jvm.OwnW.iload O24 at_324 rfl (q := 326) rfl ?_
          refine Jvm.OwnW.callS0 O24 (y := (⟨"com/example/occupancy/occupancy/cell/internal/BitCellsSetAllPinLaw", "expected", "(IJJJJI)J"⟩ : MethodName)) (argsL := [(.int (3 : Int32)), (.long p8), (.long xa), (.long xb), (.long xc), (.int (0 : Int32))]) (rest := [(.long ((own_g p8) 3))]) at_326 (hw _ (List.mem_of_getElem? (i := 63) rfl)) (hw _ (List.mem_of_getElem? (i := 64) rfl)) (hw _ (List.mem_of_getElem? (i := 65) rfl)) (hw _ (List.mem_of_getElem? (i := 66) rfl)) (by decide) (rm_e l Z a0 hw (3 : Int32) p8 xa xb xc (0 : Int32) h8) rfl pd_11 rfl (hst := rfl) (W := 2) (Nat.le_of_eq rfl) (by decide) (by decide) (c2 := 5) (s2 := 49) rfl rfl (by decide) (by decide) rfl rfl (q := 329) rfl ?_
          intro v25 T25 O25 q25
          obtain rfl := q25
          show Go C _ _ _ _ (T25.setTop (mkF C.m 329 #[.val (.int p0), .val (.int p1), .val (.long p2), .second, .val (.long p4), .second, .val (.long p6), .second, .val (.long p8), .second, .val (.long m), .second, .val (.int wc), .val (.long sp), .second, .val (.long xa), .second, .val (.long xb), .second, .val (.long xc), .second, .val (.int (0 : Int32)), .val (.ref a1), .val (.ref a5), .val (.int (1 : Int32))] [(.long (fn_e (3 : Int32) p8 xa xb xc (0 : Int32))), (.long ((own_g p8) 3))]))
          refine Jvm.OwnW.lcmp O25 at_329 rfl (q := 330) rfl ?_
          refine Jvm.OwnW.ifNo O25 at_330 (teqL (show ((own_g p8) 3) = (fn_e (3 : Int32) p8 xa xb xc (0 : Int32)) from (by have q := own_e0 p8 xa xb xc xan xbn xcn hxan hxbn hxcn (3 : Int32) 3 rfl; (try simp only [hqa, hqb, hqc] at q); exact q))).2 (q := 333) rfl ?_
          refine Jvm.OwnW.iconst O25 at_333 (r := (1 : Int32)) rfl (q := 334) rfl ?_
          refine Jvm.OwnW.goto O25 at_334 (by decide) (q := 338) rfl ?_
          refine Jvm.OwnW.istore O25 at_338 (L' := #[.val (.int p0), .val (.int p1), .val (.long p2), .second, .val (.long p4), .second, .val (.long p6), .second, .val (.long p8), .second, .val (.long m), .second, .val (.int wc), .val (.long sp), .second, .val (.long xa), .second, .val (.long xb), .second, .val (.long xc), .second, .val (.int (0 : Int32)), .val (.ref a1), .val (.ref a5), .val (.int (1 : Int32))]) rfl (q := 340) rfl ?_
          refine Jvm.OwnW.iload O25 at_340 rfl (q := 342) rfl ?_
          exact Jvm.OwnW.retB O25 at_342 rfl (Or.inr rfl) (by decide) (by decide) rfl
        · refine Jvm.OwnW.icmpYes O11 at_301 (flt hc301).2.2.2 (by decide) (q := 340) rfl ?_
          refine Jvm.OwnW.iload O11 at_340 rfl (q := 342) rfl ?_
          exact Jvm.OwnW.retB O11 at_342 rfl (Or.inr rfl) (by decide) (by decide) rfl
  · skip
    obtain rfl : ct = (1 : Int32) := eq32 hcn
    show Go C _ _ _ _ (T.setTop (mkF C.m 67 #[.val (.int p0), .val (.int p1), .val (.long p2), .second, .val (.long p4), .second, .val (.long p6), .second, .val (.long p8), .second, .val (.long m), .second, .val (.int wc), .val (.long sp), .second, .val (.long xa), .second, .val (.long xb), .second, .val (.long xc), .second, .unset, .unset, .unset, .unset] [(.int (1 : Int32))]))
    refine Jvm.OwnW.istore O at_67 (L' := #[.val (.int p0), .val (.int p1), .val (.long p2), .second, .val (.long p4), .second, .val (.long p6), .second, .val (.long p8), .second, .val (.long m), .second, .val (.int wc), .val (.long sp), .second, .val (.long xa), .second, .val (.long xb), .second, .val (.long xc), .second, .val (.int (1 : Int32)), .unset, .unset, .unset]) rfl (q := 69) rfl ?_
    refine Jvm.OwnW.iconst O at_69 (r := (3 : Int32)) rfl (q := 70) rfl ?_
    refine Jvm.OwnW.newA' O at_70 (ty := .long) rfl (hw _ (List.mem_of_getElem? (i := 3) rfl)) (N := 3) rfl (cap := 3) (by decide) (by decide) (c2 := 1) (s2 := 3) rfl rfl (by decide) (by decide) (q := 72) rfl ?_
    intro a26 T26 h26 g26 N26 O26 X26 V_a26
    have V_a26 : Ar Z h26 a26 .long 3 (lf [(.long (0 : Int64)), (.long (0 : Int64)), (.long (0 : Int64))]) := V_a26.congr (lf_rep 3 _)
    refine Jvm.OwnW.dup O26 at_72 rfl (q := 73) rfl ?_
    refine Jvm.OwnW.iconst O26 at_73 (r := (0 : Int32)) rfl (q := 74) rfl ?_
    refine Jvm.OwnW.lload O26 at_74 rfl (q := 76) rfl ?_
    refine Jvm.OwnW.lasA O26 at_76 V_a26 (i := 0) rfl (by decide) (Or.inr N26) (q := 77) rfl ?_
    intro T27 h27 O27 W27
    have V_a26 : Ar Z h27 a26 .long 3 (lf [(.long xa), (.long (0 : Int64)), (.long (0 : Int64))]) := V_a26.setL W27 (by decide) (Nat.le_of_ble_eq_true rfl)
    refine Jvm.OwnW.dup O27 at_77 rfl (q := 78) rfl ?_
    refine Jvm.OwnW.iconst O27 at_78 (r := (1 : Int32)) rfl (q := 79) rfl ?_
    refine Jvm.OwnW.lload O27 at_79 rfl (q := 81) rfl ?_
    refine Jvm.OwnW.lasA O27 at_81 V_a26 (i := 1) rfl (by decide) (Or.inr N26) (q := 82) rfl ?_
    intro T28 h28 O28 W28
    have V_a26 : Ar Z h28 a26 .long 3 (lf [(.long xa), (.long xb), (.long (0 : Int64))]) := V_a26.setL W28 (by decide) (Nat.le_of_ble_eq_true rfl)
    refine Jvm.OwnW.dup O28 at_82 rfl (q := 83) rfl ?_
    refine Jvm.OwnW.iconst O28 at_83 (r := (2 : Int32)) rfl (q := 84) rfl ?_
    refine Jvm.OwnW.lload O28 at_84 rfl (q := 86) rfl ?_
    refine Jvm.OwnW.lasA O28 at_86 V_a26 (i := 2) rfl (by decide) (Or.inr N26) (q := 87) rfl ?_
    intro T29 h29 O29 W29
    have V_a26 : Ar Z h29 a26 .long 3 (lf [(.long xa), (.long xb), (.long xc)]) := V_a26.setL W29 (by decide) (Nat.le_of_ble_eq_true rfl)
    refine Jvm.OwnW.astore O29 at_87 rfl (L' := #[.val (.int p0), .val (.int p1), .val (.long p2), .second, .val (.long p4), .second, .val (.long p6), .second, .val (.long p8), .second, .val (.long m), .second, .val (.int wc), .val (.long sp), .second, .val (.long xa), .second, .val (.long xb), .second, .val (.long xc), .second, .val (.int (1 : Int32)), .val (.ref a26), .unset, .unset]) rfl (q := 89) rfl ?_
    refine Jvm.OwnW.newO O29 at_89 (hw _ (List.mem_of_getElem? (i := 4) rfl)) (hw _ (List.mem_of_getElem? (i := 5) rfl)) (hw _ (List.mem_of_getElem? (i := 6) rfl)) (c2 := 2) (s2 := 5) rfl rfl (by decide) (by decide) (q := 92) rfl ?_
    intro a30 T30 h30 g30 N30 O30 X30 E_a30 D30
    have ne_a26_a30 : a26 ≠ a30 := Nat.ne_of_lt (Nat.lt_of_lt_of_le V_a26.lt (Nat.le_of_eq g30.symm))
    have V_a26 := V_a26.ext X30
    have F_cellCount_a30 : Fld Z h30 a30 "com/example/occupancy/occupancy/cell/internal/BitCells" "cellCount" "J" (.long (0 : Int64)) := D30 (Or.inr (hw _ (List.mem_of_getElem? (i := 40) rfl))) (ty := .long) (by decide)
    have F_words_a30 : Fld Z h30 a30 "com/example/occupancy/occupancy/cell/internal/BitCells" "words" "[J" .null := D30 (Or.inr (hw _ (List.mem_of_getElem? (i := 42) rfl))) (ty := (.array .long)) (by decide)
    refine Jvm.OwnW.dup O30 at_92 rfl (q := 93) rfl ?_
    refine Jvm.OwnW.lload O30 at_93 rfl (q := 95) rfl ?_
    have lt_a26 := V_a26.lt
    have lt_a30 := E_a30.lt
    refine Jvm.OwnW.callI O30 (y := (⟨"com/example/occupancy/occupancy/cell/internal/BitCells", "<init>", "(J)V"⟩ : MethodName)) (a := a30) (argsL := [(.long m)]) (rest := [(.ref a30)]) at_95 rfl (hw _ (List.mem_of_getElem? (i := 7) rfl)) (hw _ (List.mem_of_getElem? (i := 8) rfl)) (hw _ (List.mem_of_getElem? (i := 6) rfl)) (hw _ (List.mem_of_getElem? (i := 9) rfl)) (by decide) (rm_i l Z a0 hw a30 m nn h30 E_a30 F_cellCount_a30 F_words_a30 hlo hhi hnw hn4) rfl pd_6 rfl (hst := rfl) (W := 1) (Nat.le_of_eq rfl) (by decide) (by decide) (c2 := 5) (s2 := 49) rfl rfl (by decide) (by decide) (allS (Or.inr N30) all0) (q := 98) rfl ?_
    intro v31 T31 h31 O31 K31 q31
    obtain ⟨rfl, al, m_al, F_words_a30, V_al⟩ := q31
    have V_a26 := V_a26.keep K31 (ninS ne_a26_a30 nin0)
    have E_a30 := E_a30.keep K31
    have N_al : C.s.heap.size ≤ al := Nat.le_trans O30.size m_al
    have ne_a26_al : a26 ≠ al := Nat.ne_of_lt (Nat.lt_of_lt_of_le lt_a26 m_al)
    have ne_a30_al : a30 ≠ al := Nat.ne_of_lt (Nat.lt_of_lt_of_le lt_a30 m_al)
    show Go C _ _ _ _ (T31.setTop (mkF C.m 98 #[.val (.int p0), .val (.int p1), .val (.long p2), .second, .val (.long p4), .second, .val (.long p6), .second, .val (.long p8), .second, .val (.long m), .second, .val (.int wc), .val (.long sp), .second, .val (.long xa), .second, .val (.long xb), .second, .val (.long xc), .second, .val (.int (1 : Int32)), .val (.ref a26), .unset, .unset] [(.ref a30)]))
    refine Jvm.OwnW.astore O31 at_98 rfl (L' := #[.val (.int p0), .val (.int p1), .val (.long p2), .second, .val (.long p4), .second, .val (.long p6), .second, .val (.long p8), .second, .val (.long m), .second, .val (.int wc), .val (.long sp), .second, .val (.long xa), .second, .val (.long xb), .second, .val (.long xc), .second, .val (.int (1 : Int32)), .val (.ref a26), .val (.ref a30), .unset]) rfl (q := 100) rfl ?_
    refine Jvm.OwnW.aload O31 at_100 rfl rfl (q := 102) rfl ?_
    refine Jvm.OwnW.iconst O31 at_102 (r := (0 : Int32)) rfl (q := 103) rfl ?_
    refine Jvm.OwnW.lload O31 at_103 rfl (q := 105) rfl ?_
    refine Jvm.OwnW.callV O31 (y := (⟨"com/example/occupancy/occupancy/cell/internal/BitCells", "setWord", "(IJ)V"⟩ : MethodName)) (z := (⟨"com/example/occupancy/occupancy/cell/internal/BitCells", "setWord", "(IJ)V"⟩ : MethodName)) (a := a30) (argsL := [(.int (0 : Int32)), (.long p8)]) (rest := []) at_105 (hw _ (List.mem_of_getElem? (i := 43) rfl)) (hw _ (List.mem_of_getElem? (i := 44) rfl)) (hw _ (List.mem_of_getElem? (i := 46) rfl)) rfl (hw _ (List.mem_of_getElem? (i := 45) rfl)) (hw _ (List.mem_of_getElem? (i := 6) rfl)) (hw _ (List.mem_of_getElem? (i := 47) rfl)) (by decide) (rm_s l Z a0 hw a30 p8 al nn h31 E_a30 F_words_a30 ne_a30_al V_al hn1) E_a30 rfl pd_7 rfl (hst := rfl) (W := 0) (Nat.le_of_eq rfl) (by decide) (by decide) (c2 := 5) (s2 := 49) rfl rfl (by decide) (by decide) (allS (Or.inr N_al) all0) (q := 108) rfl ?_
    intro v32 T32 h32 O32 K32 q32
    obtain ⟨rfl, V_al⟩ := q32
    have V_a26 := V_a26.keep K32 (ninS ne_a26_al nin0)
    have E_a30 := E_a30.keep K32
    have F_words_a30 := F_words_a30.keep K32 (ninS ne_a30_al nin0)
    show Go C _ _ _ _ (T32.setTop (mkF C.m 108 #[.val (.int p0), .val (.int p1), .val (.long p2), .second, .val (.long p4), .second, .val (.long p6), .second, .val (.long p8), .second, .val (.long m), .second, .val (.int wc), .val (.long sp), .second, .val (.long xa), .second, .val (.long xb), .second, .val (.long xc), .second, .val (.int (1 : Int32)), .val (.ref a26), .val (.ref a30), .unset] []))
    refine Jvm.OwnW.aload O32 at_108 rfl rfl (q := 110) rfl ?_
    refine Jvm.OwnW.aload O32 at_110 rfl rfl (q := 112) rfl ?_
    refine Jvm.OwnW.iload O32 at_112 rfl (q := 114) rfl ?_
    refine Jvm.OwnW.callV O32 (y := (⟨"com/example/occupancy/occupancy/cell/internal/BitCells", "setAll", "([JI)V"⟩ : MethodName)) (z := (⟨"com/example/occupancy/occupancy/cell/internal/BitCells", "setAll", "([JI)V"⟩ : MethodName)) (a := a30) (argsL := [(.ref a26), (.int (1 : Int32))]) (rest := []) at_114 (hw _ (List.mem_of_getElem? (i := 48) rfl)) (hw _ (List.mem_of_getElem? (i := 49) rfl)) (hw _ (List.mem_of_getElem? (i := 51) rfl)) rfl (hw _ (List.mem_of_getElem? (i := 50) rfl)) (hw _ (List.mem_of_getElem? (i := 6) rfl)) (hw _ (List.mem_of_getElem? (i := 52) rfl)) (by decide) (rm_a1 l Z a0 hw a30 a26 al xa xb xc ka kb kc nn (own_g p8) h32 E_a30 F_words_a30 ne_a30_al V_al V_a26 ne_a26_al hka hna hkb hnb hkc hnc) E_a30 rfl pd_8 rfl (hst := rfl) (W := 0) (Nat.le_of_eq rfl) (by decide) (by decide) (c2 := 5) (s2 := 49) rfl rfl (by decide) (by decide) (allS (Or.inr N_al) all0) (q := 117) rfl ?_
    intro v33 T33 h33 O33 K33 q33
    obtain ⟨rfl, V_al⟩ := q33
    have V_a26 := V_a26.keep K33 (ninS ne_a26_al nin0)
    have E_a30 := E_a30.keep K33
    have F_words_a30 := F_words_a30.keep K33 (ninS ne_a30_al nin0)
    show Go C _ _ _ _ (T33.setTop (mkF C.m 117 #[.val (.int p0), .val (.int p1), .val (.long p2), .second, .val (.long p4), .second, .val (.long p6), .second, .val (.long p8), .second, .val (.long m), .second, .val (.int wc), .val (.long sp), .second, .val (.long xa), .second, .val (.long xb), .second, .val (.long xc), .second, .val (.int (1 : Int32)), .val (.ref a26), .val (.ref a30), .unset] []))
    refine Jvm.OwnW.aload O33 at_117 rfl rfl (q := 119) rfl ?_
    refine Jvm.OwnW.iconst O33 at_119 (r := (0 : Int32)) rfl (q := 120) rfl ?_
    refine Jvm.OwnW.lalA O33 at_120 V_a26 (i := 0) rfl (by decide) (v := (.long xa)) rfl (q := 121) rfl ?_
    refine Jvm.OwnW.lload O33 at_121 rfl (q := 123) rfl ?_
    refine Jvm.OwnW.lcmp O33 at_123 rfl (q := 124) rfl ?_
    refine Jvm.OwnW.ifNo O33 at_124 (teqL (show xa = xa from rfl)).2 (q := 127) rfl ?_
    refine Jvm.OwnW.aload O33 at_127 rfl rfl (q := 129) rfl ?_
    refine Jvm.OwnW.iconst O33 at_129 (r := (1 : Int32)) rfl (q := 130) rfl ?_
    refine Jvm.OwnW.lalA O33 at_130 V_a26 (i := 1) rfl (by decide) (v := (.long xb)) rfl (q := 131) rfl ?_
    refine Jvm.OwnW.lload O33 at_131 rfl (q := 133) rfl ?_
    refine Jvm.OwnW.lcmp O33 at_133 rfl (q := 134) rfl ?_
    refine Jvm.OwnW.ifNo O33 at_134 (teqL (show xb = xb from rfl)).2 (q := 137) rfl ?_
    refine Jvm.OwnW.aload O33 at_137 rfl rfl (q := 139) rfl ?_
    refine Jvm.OwnW.iconst O33 at_139 (r := (2 : Int32)) rfl (q := 140) rfl ?_
    refine Jvm.OwnW.lalA O33 at_140 V_a26 (i := 2) rfl (by decide) (v := (.long xc)) rfl (q := 141) rfl ?_
    refine Jvm.OwnW.lload O33 at_141 rfl (q := 143) rfl ?_
    refine Jvm.OwnW.lcmp O33 at_143 rfl (q := 144) rfl ?_
    refine Jvm.OwnW.ifNo O33 at_144 (teqL (show xc = xc from rfl)).2 (q := 147) rfl ?_
    refine Jvm.OwnW.iconst O33 at_147 (r := (1 : Int32)) rfl (q := 148) rfl ?_
    refine Jvm.OwnW.goto O33 at_148 (by decide) (q := 152) rfl ?_
    refine Jvm.OwnW.istore O33 at_152 (L' := #[.val (.int p0), .val (.int p1), .val (.long p2), .second, .val (.long p4), .second, .val (.long p6), .second, .val (.long p8), .second, .val (.long m), .second, .val (.int wc), .val (.long sp), .second, .val (.long xa), .second, .val (.long xb), .second, .val (.long xc), .second, .val (.int (1 : Int32)), .val (.ref a26), .val (.ref a30), .val (.int (1 : Int32))]) rfl (q := 154) rfl ?_
    refine Jvm.OwnW.iload O33 at_154 rfl (q := 156) rfl ?_
    refine Jvm.OwnW.ifNo O33 at_156 (feq0 (show ¬ ((1 : Int32) = (0 : Int32)) from (by decide))).1 (q := 159) rfl ?_
    refine Jvm.OwnW.aload O33 at_159 rfl rfl (q := 161) rfl ?_
    refine Jvm.OwnW.callV0 O33 (y := (⟨"com/example/occupancy/occupancy/cell/internal/BitCells", "wordCount", "()J"⟩ : MethodName)) (z := (⟨"com/example/occupancy/occupancy/cell/internal/BitCells", "wordCount", "()J"⟩ : MethodName)) (a := a30) (argsL := []) (rest := []) at_161 (hw _ (List.mem_of_getElem? (i := 53) rfl)) (hw _ (List.mem_of_getElem? (i := 54) rfl)) (hw _ (List.mem_of_getElem? (i := 56) rfl)) rfl (hw _ (List.mem_of_getElem? (i := 55) rfl)) (hw _ (List.mem_of_getElem? (i := 6) rfl)) (hw _ (List.mem_of_getElem? (i := 57) rfl)) (by decide) (rm_n l Z a0 hw a30 al wc nn _ h33 E_a30 F_words_a30 V_al hnn) E_a30 rfl pd_9 rfl (hst := rfl) (W := 0) (Nat.le_of_eq rfl) (by decide) (by decide) (c2 := 5) (s2 := 49) rfl rfl (by decide) (by decide) rfl rfl (q := 164) rfl ?_
    intro v34 T34 O34 q34
    obtain rfl := q34
    show Go C _ _ _ _ (T34.setTop (mkF C.m 164 #[.val (.int p0), .val (.int p1), .val (.long p2), .second, .val (.long p4), .second, .val (.long p6), .second, .val (.long p8), .second, .val (.long m), .second, .val (.int wc), .val (.long sp), .second, .val (.long xa), .second, .val (.long xb), .second, .val (.long xc), .second, .val (.int (1 : Int32)), .val (.ref a26), .val (.ref a30), .val (.int (1 : Int32))] [(.long wc.toInt64)]))
    refine Jvm.OwnW.iload O34 at_164 rfl (q := 166) rfl ?_
    refine Jvm.OwnW.i2l O34 at_166 rfl (q := 167) rfl ?_
    refine Jvm.OwnW.lcmp O34 at_167 rfl (q := 168) rfl ?_
    refine Jvm.OwnW.ifNo O34 at_168 (teqL (show wc.toInt64 = wc.toInt64 from rfl)).2 (q := 171) rfl ?_
    refine Jvm.OwnW.iconst O34 at_171 (r := (1 : Int32)) rfl (q := 172) rfl ?_
    refine Jvm.OwnW.goto O34 at_172 (by decide) (q := 176) rfl ?_
    refine Jvm.OwnW.istore O34 at_176 (L' := #[.val (.int p0), .val (.int p1), .val (.long p2), .second, .val (.long p4), .second, .val (.long p6), .second, .val (.long p8), .second, .val (.long m), .second, .val (.int wc), .val (.long sp), .second, .val (.long xa), .second, .val (.long xb), .second, .val (.long xc), .second, .val (.int (1 : Int32)), .val (.ref a26), .val (.ref a30), .val (.int (1 : Int32))]) rfl (q := 178) rfl ?_
    refine Jvm.OwnW.iload O34 at_178 rfl (q := 180) rfl ?_
    refine Jvm.OwnW.ifNo O34 at_180 (feq0 (show ¬ ((1 : Int32) = (0 : Int32)) from (by decide))).1 (q := 183) rfl ?_
    refine Jvm.OwnW.aload O34 at_183 rfl rfl (q := 185) rfl ?_
    refine Jvm.OwnW.iconst O34 at_185 (r := (0 : Int32)) rfl (q := 186) rfl ?_
    refine Jvm.OwnW.callV0 O34 (y := (⟨"com/example/occupancy/occupancy/cell/internal/BitCells", "word", "(I)J"⟩ : MethodName)) (z := (⟨"com/example/occupancy/occupancy/cell/internal/BitCells", "word", "(I)J"⟩ : MethodName)) (a := a30) (argsL := [(.int (0 : Int32))]) (rest := []) at_186 (hw _ (List.mem_of_getElem? (i := 58) rfl)) (hw _ (List.mem_of_getElem? (i := 59) rfl)) (hw _ (List.mem_of_getElem? (i := 61) rfl)) rfl (hw _ (List.mem_of_getElem? (i := 60) rfl)) (hw _ (List.mem_of_getElem? (i := 6) rfl)) (hw _ (List.mem_of_getElem? (i := 62) rfl)) (by decide) (rm_o l Z a0 hw a30 (0 : Int32) al 0 nn (own_o (own_g p8) ka ((1 : Int64) <<< (xa.toInt32 &&& 0x3f).toInt64)) h33 E_a30 F_words_a30 V_al rfl hn1) E_a30 rfl pd_10 rfl (hst := rfl) (W := 0) (Nat.le_of_eq rfl) (by decide) (by decide) (c2 := 5) (s2 := 49) rfl rfl (by decide) (by decide) rfl rfl (q := 189) rfl ?_
    intro v35 T35 O35 q35
    obtain rfl := q35
    show Go C _ _ _ _ (T35.setTop (mkF C.m 189 #[.val (.int p0), .val (.int p1), .val (.long p2), .second, .val (.long p4), .second, .val (.long p6), .second, .val (.long p8), .second, .val (.long m), .second, .val (.int wc), .val (.long sp), .second, .val (.long xa), .second, .val (.long xb), .second, .val (.long xc), .second, .val (.int (1 : Int32)), .val (.ref a26), .val (.ref a30), .val (.int (1 : Int32))] [(.long ((own_o (own_g p8) ka ((1 : Int64) <<< (xa.toInt32 &&& 0x3f).toInt64)) 0))]))
    refine Jvm.OwnW.iconst O35 at_189 (r := (0 : Int32)) rfl (q := 190) rfl ?_
    refine Jvm.OwnW.lload O35 at_190 rfl (q := 192) rfl ?_
    refine Jvm.OwnW.lload O35 at_192 rfl (q := 194) rfl ?_
    refine Jvm.OwnW.lload O35 at_194 rfl (q := 196) rfl ?_
    refine Jvm.OwnW.lload O35 at_196 rfl (q := 198) rfl ?_
    refine Jvm.OwnW.iload O35 at_198 rfl (q := 200) rfl ?_
    refine Jvm.OwnW.callS0 O35 (y := (⟨"com/example/occupancy/occupancy/cell/internal/BitCellsSetAllPinLaw", "expected", "(IJJJJI)J"⟩ : MethodName)) (argsL := [(.int (0 : Int32)), (.long p8), (.long xa), (.long xb), (.long xc), (.int (1 : Int32))]) (rest := [(.long ((own_o (own_g p8) ka ((1 : Int64) <<< (xa.toInt32 &&& 0x3f).toInt64)) 0))]) at_200 (hw _ (List.mem_of_getElem? (i := 63) rfl)) (hw _ (List.mem_of_getElem? (i := 64) rfl)) (hw _ (List.mem_of_getElem? (i := 65) rfl)) (hw _ (List.mem_of_getElem? (i := 66) rfl)) (by decide) (rm_e l Z a0 hw (0 : Int32) p8 xa xb xc (1 : Int32) h33) rfl pd_11 rfl (hst := rfl) (W := 2) (Nat.le_of_eq rfl) (by decide) (by decide) (c2 := 5) (s2 := 49) rfl rfl (by decide) (by decide) rfl rfl (q := 203) rfl ?_
    intro v36 T36 O36 q36
    obtain rfl := q36
    show Go C _ _ _ _ (T36.setTop (mkF C.m 203 #[.val (.int p0), .val (.int p1), .val (.long p2), .second, .val (.long p4), .second, .val (.long p6), .second, .val (.long p8), .second, .val (.long m), .second, .val (.int wc), .val (.long sp), .second, .val (.long xa), .second, .val (.long xb), .second, .val (.long xc), .second, .val (.int (1 : Int32)), .val (.ref a26), .val (.ref a30), .val (.int (1 : Int32))] [(.long (fn_e (0 : Int32) p8 xa xb xc (1 : Int32))), (.long ((own_o (own_g p8) ka ((1 : Int64) <<< (xa.toInt32 &&& 0x3f).toInt64)) 0))]))
    refine Jvm.OwnW.lcmp O36 at_203 rfl (q := 204) rfl ?_
    refine Jvm.OwnW.ifNo O36 at_204 (teqL (show ((own_o (own_g p8) ka ((1 : Int64) <<< (xa.toInt32 &&& 0x3f).toInt64)) 0) = (fn_e (0 : Int32) p8 xa xb xc (1 : Int32)) from (by have q := own_e1 p8 xa xb xc xan xbn xcn hxan hxbn hxcn (0 : Int32) 0 rfl; (try simp only [hqa, hqb, hqc] at q); exact q))).2 (q := 207) rfl ?_
    refine Jvm.OwnW.iconst O36 at_207 (r := (1 : Int32)) rfl (q := 208) rfl ?_
    refine Jvm.OwnW.goto O36 at_208 (by decide) (q := 212) rfl ?_
    refine Jvm.OwnW.istore O36 at_212 (L' := #[.val (.int p0), .val (.int p1), .val (.long p2), .second, .val (.long p4), .second, .val (.long p6), .second, .val (.long p8), .second, .val (.long m), .second, .val (.int wc), .val (.long sp), .second, .val (.long xa), .second, .val (.long xb), .second, .val (.long xc), .second, .val (.int (1 : Int32)), .val (.ref a26), .val (.ref a30), .val (.int (1 : Int32))]) rfl (q := 214) rfl ?_
    refine Jvm.OwnW.iload O36 at_214 rfl (q := 216) rfl ?_
    refine Jvm.OwnW.iconst O36 at_216 (r := (1 : Int32)) rfl (q := 217) rfl ?_
    by_cases hc217 : (1 : Int32) < wc
    · refine Jvm.OwnW.icmpNo O36 at_217 (tlt hc217).2.2.2 (q := 220) rfl ?_
      refine Jvm.OwnW.iload O36 at_220 rfl (q := 222) rfl ?_
      refine Jvm.OwnW.ifNo O36 at_222 (feq0 (show ¬ ((1 : Int32) = (0 : Int32)) from (by decide))).1 (q := 225) rfl ?_
      refine Jvm.OwnW.aload O36 at_225 rfl rfl (q := 227) rfl ?_
      refine Jvm.OwnW.iconst O36 at_227 (r := (1 : Int32)) rfl (q := 228) rfl ?_
      refine Jvm.OwnW.callV0 O36 (y := (⟨"com/example/occupancy/occupancy/cell/internal/BitCells", "word", "(I)J"⟩ : MethodName)) (z := (⟨"com/example/occupancy/occupancy/cell/internal/BitCells", "word", "(I)J"⟩ : MethodName)) (a := a30) (argsL := [(.int (1 : Int32))]) (rest := []) at_228 (hw _ (List.mem_of_getElem? (i := 58) rfl)) (hw _ (List.mem_of_getElem? (i := 59) rfl)) (hw _ (List.mem_of_getElem? (i := 61) rfl)) rfl (hw _ (List.mem_of_getElem? (i := 60) rfl)) (hw _ (List.mem_of_getElem? (i := 6) rfl)) (hw _ (List.mem_of_getElem? (i := 62) rfl)) (by decide) (rm_o l Z a0 hw a30 (1 : Int32) al 1 nn (own_o (own_g p8) ka ((1 : Int64) <<< (xa.toInt32 &&& 0x3f).toInt64)) h33 E_a30 F_words_a30 V_al rfl (by rw [Int32.lt_iff_toInt_lt, hnn] at hc217; have q : (1 : Int32).toInt = 1 := rfl; omega)) E_a30 rfl pd_10 rfl (hst := rfl) (W := 0) (Nat.le_of_eq rfl) (by decide) (by decide) (c2 := 5) (s2 := 49) rfl rfl (by decide) (by decide) rfl rfl (q := 231) rfl ?_
      intro v37 T37 O37 q37
      obtain rfl := q37
      show Go C _ _ _ _ (T37.setTop (mkF C.m 231 #[.val (.int p0), .val (.int p1), .val (.long p2), .second, .val (.long p4), .second, .val (.long p6), .second, .val (.long p8), .second, .val (.long m), .second, .val (.int wc), .val (.long sp), .second, .val (.long xa), .second, .val (.long xb), .second, .val (.long xc), .second, .val (.int (1 : Int32)), .val (.ref a26), .val (.ref a30), .val (.int (1 : Int32))] [(.long ((own_o (own_g p8) ka ((1 : Int64) <<< (xa.toInt32 &&& 0x3f).toInt64)) 1))]))
      refine Jvm.OwnW.iconst O37 at_231 (r := (1 : Int32)) rfl (q := 232) rfl ?_
      refine Jvm.OwnW.lload O37 at_232 rfl (q := 234) rfl ?_
      refine Jvm.OwnW.lload O37 at_234 rfl (q := 236) rfl ?_
      refine Jvm.OwnW.lload O37 at_236 rfl (q := 238) rfl ?_
      refine Jvm.OwnW.lload O37 at_238 rfl (q := 240) rfl ?_
      refine Jvm.OwnW.iload O37 at_240 rfl (q := 242) rfl ?_
      refine Jvm.OwnW.callS0 O37 (y := (⟨"com/example/occupancy/occupancy/cell/internal/BitCellsSetAllPinLaw", "expected", "(IJJJJI)J"⟩ : MethodName)) (argsL := [(.int (1 : Int32)), (.long p8), (.long xa), (.long xb), (.long xc), (.int (1 : Int32))]) (rest := [(.long ((own_o (own_g p8) ka ((1 : Int64) <<< (xa.toInt32 &&& 0x3f).toInt64)) 1))]) at_242 (hw _ (List.mem_of_getElem? (i := 63) rfl)) (hw _ (List.mem_of_getElem? (i := 64) rfl)) (hw _ (List.mem_of_getElem? (i := 65) rfl)) (hw _ (List.mem_of_getElem? (i := 66) rfl)) (by decide) (rm_e l Z a0 hw (1 : Int32) p8 xa xb xc (1 : Int32) h33) rfl pd_11 rfl (hst := rfl) (W := 2) (Nat.le_of_eq rfl) (by decide) (by decide) (c2 := 5) (s2 := 49) rfl rfl (by decide) (by decide) rfl rfl (q := 245) rfl ?_
      intro v38 T38 O38 q38
      obtain rfl := q38
      show Go C _ _ _ _ (T38.setTop (mkF C.m 245 #[.val (.int p0), .val (.int p1), .val (.long p2), .second, .val (.long p4), .second, .val (.long p6), .second, .val (.long p8), .second, .val (.long m), .second, .val (.int wc), .val (.long sp), .second, .val (.long xa), .second, .val (.long xb), .second, .val (.long xc), .second, .val (.int (1 : Int32)), .val (.ref a26), .val (.ref a30), .val (.int (1 : Int32))] [(.long (fn_e (1 : Int32) p8 xa xb xc (1 : Int32))), (.long ((own_o (own_g p8) ka ((1 : Int64) <<< (xa.toInt32 &&& 0x3f).toInt64)) 1))]))
      refine Jvm.OwnW.lcmp O38 at_245 rfl (q := 246) rfl ?_
      refine Jvm.OwnW.ifNo O38 at_246 (teqL (show ((own_o (own_g p8) ka ((1 : Int64) <<< (xa.toInt32 &&& 0x3f).toInt64)) 1) = (fn_e (1 : Int32) p8 xa xb xc (1 : Int32)) from (by have q := own_e1 p8 xa xb xc xan xbn xcn hxan hxbn hxcn (1 : Int32) 1 rfl; (try simp only [hqa, hqb, hqc] at q); exact q))).2 (q := 249) rfl ?_
      refine Jvm.OwnW.iconst O38 at_249 (r := (1 : Int32)) rfl (q := 250) rfl ?_
      refine Jvm.OwnW.goto O38 at_250 (by decide) (q := 254) rfl ?_
      refine Jvm.OwnW.istore O38 at_254 (L' := #[.val (.int p0), .val (.int p1), .val (.long p2), .second, .val (.long p4), .second, .val (.long p6), .second, .val (.long p8), .second, .val (.long m), .second, .val (.int wc), .val (.long sp), .second, .val (.long xa), .second, .val (.long xb), .second, .val (.long xc), .second, .val (.int (1 : Int32)), .val (.ref a26), .val (.ref a30), .val (.int (1 : Int32))]) rfl (q := 256) rfl ?_
      refine Jvm.OwnW.iload O38 at_256 rfl (q := 258) rfl ?_
      refine Jvm.OwnW.iconst O38 at_258 (r := (2 : Int32)) rfl (q := 259) rfl ?_
      by_cases hc259 : (2 : Int32) < wc
      · refine Jvm.OwnW.icmpNo O38 at_259 (tlt hc259).2.2.2 (q := 262) rfl ?_
        refine Jvm.OwnW.iload O38 at_262 rfl (q := 264) rfl ?_
        refine Jvm.OwnW.ifNo O38 at_264 (feq0 (show ¬ ((1 : Int32) = (0 : Int32)) from (by decide))).1 (q := 267) rfl ?_
        refine Jvm.OwnW.aload O38 at_267 rfl rfl (q := 269) rfl ?_
        refine Jvm.OwnW.iconst O38 at_269 (r := (2 : Int32)) rfl (q := 270) rfl ?_
        refine Jvm.OwnW.callV0 O38 (y := (⟨"com/example/occupancy/occupancy/cell/internal/BitCells", "word", "(I)J"⟩ : MethodName)) (z := (⟨"com/example/occupancy/occupancy/cell/internal/BitCells", "word", "(I)J"⟩ : MethodName)) (a := a30) (argsL := [(.int (2 : Int32))]) (rest := []) at_270 (hw _ (List.mem_of_getElem? (i := 58) rfl)) (hw _ (List.mem_of_getElem? (i := 59) rfl)) (hw _ (List.mem_of_getElem? (i := 61) rfl)) rfl (hw _ (List.mem_of_getElem? (i := 60) rfl)) (hw _ (List.mem_of_getElem? (i := 6) rfl)) (hw _ (List.mem_of_getElem? (i := 62) rfl)) (by decide) (rm_o l Z a0 hw a30 (2 : Int32) al 2 nn (own_o (own_g p8) ka ((1 : Int64) <<< (xa.toInt32 &&& 0x3f).toInt64)) h33 E_a30 F_words_a30 V_al rfl (by rw [Int32.lt_iff_toInt_lt, hnn] at hc259; have q : (2 : Int32).toInt = 2 := rfl; omega)) E_a30 rfl pd_10 rfl (hst := rfl) (W := 0) (Nat.le_of_eq rfl) (by decide) (by decide) (c2 := 5) (s2 := 49) rfl rfl (by decide) (by decide) rfl rfl (q := 273) rfl ?_
        intro v39 T39 O39 q39
        obtain rfl := q39
        show Go C _ _ _ _ (T39.setTop (mkF C.m 273 #[.val (.int p0), .val (.int p1), .val (.long p2), .second, .val (.long p4), .second, .val (.long p6), .second, .val (.long p8), .second, .val (.long m), .second, .val (.int wc), .val (.long sp), .second, .val (.long xa), .second, .val (.long xb), .second, .val (.long xc), .second, .val (.int (1 : Int32)), .val (.ref a26), .val (.ref a30), .val (.int (1 : Int32))] [(.long ((own_o (own_g p8) ka ((1 : Int64) <<< (xa.toInt32 &&& 0x3f).toInt64)) 2))]))
        refine Jvm.OwnW.iconst O39 at_273 (r := (2 : Int32)) rfl (q := 274) rfl ?_
        refine Jvm.OwnW.lload O39 at_274 rfl (q := 276) rfl ?_
        refine Jvm.OwnW.lload O39 at_276 rfl (q := 278) rfl ?_
        refine Jvm.OwnW.lload O39 at_278 rfl (q := 280) rfl ?_
        refine Jvm.OwnW.lload O39 at_280 rfl (q := 282) rfl ?_
        refine Jvm.OwnW.iload O39 at_282 rfl (q := 284) rfl ?_
        refine Jvm.OwnW.callS0 O39 (y := (⟨"com/example/occupancy/occupancy/cell/internal/BitCellsSetAllPinLaw", "expected", "(IJJJJI)J"⟩ : MethodName)) (argsL := [(.int (2 : Int32)), (.long p8), (.long xa), (.long xb), (.long xc), (.int (1 : Int32))]) (rest := [(.long ((own_o (own_g p8) ka ((1 : Int64) <<< (xa.toInt32 &&& 0x3f).toInt64)) 2))]) at_284 (hw _ (List.mem_of_getElem? (i := 63) rfl)) (hw _ (List.mem_of_getElem? (i := 64) rfl)) (hw _ (List.mem_of_getElem? (i := 65) rfl)) (hw _ (List.mem_of_getElem? (i := 66) rfl)) (by decide) (rm_e l Z a0 hw (2 : Int32) p8 xa xb xc (1 : Int32) h33) rfl pd_11 rfl (hst := rfl) (W := 2) (Nat.le_of_eq rfl) (by decide) (by decide) (c2 := 5) (s2 := 49) rfl rfl (by decide) (by decide) rfl rfl (q := 287) rfl ?_
        intro v40 T40 O40 q40
        obtain rfl := q40
        show Go C _ _ _ _ (T40.setTop (mkF C.m 287 #[.val (.int p0), .val (.int p1), .val (.long p2), .second, .val (.long p4), .second, .val (.long p6), .second, .val (.long p8), .second, .val (.long m), .second, .val (.int wc), .val (.long sp), .second, .val (.long xa), .second, .val (.long xb), .second, .val (.long xc), .second, .val (.int (1 : Int32)), .val (.ref a26), .val (.ref a30), .val (.int (1 : Int32))] [(.long (fn_e (2 : Int32) p8 xa xb xc (1 : Int32))), (.long ((own_o (own_g p8) ka ((1 : Int64) <<< (xa.toInt32 &&& 0x3f).toInt64)) 2))]))
        refine Jvm.OwnW.lcmp O40 at_287 rfl (q := 288) rfl ?_
        refine Jvm.OwnW.ifNo O40 at_288 (teqL (show ((own_o (own_g p8) ka ((1 : Int64) <<< (xa.toInt32 &&& 0x3f).toInt64)) 2) = (fn_e (2 : Int32) p8 xa xb xc (1 : Int32)) from (by have q := own_e1 p8 xa xb xc xan xbn xcn hxan hxbn hxcn (2 : Int32) 2 rfl; (try simp only [hqa, hqb, hqc] at q); exact q))).2 (q := 291) rfl ?_
        refine Jvm.OwnW.iconst O40 at_291 (r := (1 : Int32)) rfl (q := 292) rfl ?_
        refine Jvm.OwnW.goto O40 at_292 (by decide) (q := 296) rfl ?_
        refine Jvm.OwnW.istore O40 at_296 (L' := #[.val (.int p0), .val (.int p1), .val (.long p2), .second, .val (.long p4), .second, .val (.long p6), .second, .val (.long p8), .second, .val (.long m), .second, .val (.int wc), .val (.long sp), .second, .val (.long xa), .second, .val (.long xb), .second, .val (.long xc), .second, .val (.int (1 : Int32)), .val (.ref a26), .val (.ref a30), .val (.int (1 : Int32))]) rfl (q := 298) rfl ?_
        refine Jvm.OwnW.iload O40 at_298 rfl (q := 300) rfl ?_
        refine Jvm.OwnW.iconst O40 at_300 (r := (3 : Int32)) rfl (q := 301) rfl ?_
        by_cases hc301 : (3 : Int32) < wc
        · refine Jvm.OwnW.icmpNo O40 at_301 (tlt hc301).2.2.2 (q := 304) rfl ?_
          refine Jvm.OwnW.iload O40 at_304 rfl (q := 306) rfl ?_
          refine Jvm.OwnW.ifNo O40 at_306 (feq0 (show ¬ ((1 : Int32) = (0 : Int32)) from (by decide))).1 (q := 309) rfl ?_
          refine Jvm.OwnW.aload O40 at_309 rfl rfl (q := 311) rfl ?_
          refine Jvm.OwnW.iconst O40 at_311 (r := (3 : Int32)) rfl (q := 312) rfl ?_
          refine Jvm.OwnW.callV0 O40 (y := (⟨"com/example/occupancy/occupancy/cell/internal/BitCells", "word", "(I)J"⟩ : MethodName)) (z := (⟨"com/example/occupancy/occupancy/cell/internal/BitCells", "word", "(I)J"⟩ : MethodName)) (a := a30) (argsL := [(.int (3 : Int32))]) (rest := []) at_312 (hw _ (List.mem_of_getElem? (i := 58) rfl)) (hw _ (List.mem_of_getElem? (i := 59) rfl)) (hw _ (List.mem_of_getElem? (i := 61) rfl)) rfl (hw _ (List.mem_of_getElem? (i := 60) rfl)) (hw _ (List.mem_of_getElem? (i := 6) rfl)) (hw _ (List.mem_of_getElem? (i := 62) rfl)) (by decide) (rm_o l Z a0 hw a30 (3 : Int32) al 3 nn (own_o (own_g p8) ka ((1 : Int64) <<< (xa.toInt32 &&& 0x3f).toInt64)) h33 E_a30 F_words_a30 V_al rfl (by rw [Int32.lt_iff_toInt_lt, hnn] at hc301; have q : (3 : Int32).toInt = 3 := rfl; omega)) E_a30 rfl pd_10 rfl (hst := rfl) (W := 0) (Nat.le_of_eq rfl) (by decide) (by decide) (c2 := 5) (s2 := 49) rfl rfl (by decide) (by decide) rfl rfl (q := 315) rfl ?_
          intro v41 T41 O41 q41
          obtain rfl := q41
          show Go C _ _ _ _ (T41.setTop (mkF C.m 315 #[.val (.int p0), .val (.int p1), .val (.long p2), .second, .val (.long p4), .second, .val (.long p6), .second, .val (.long p8), .second, .val (.long m), .second, .val (.int wc), .val (.long sp), .second, .val (.long xa), .second, .val (.long xb), .second, .val (.long xc), .second, .val (.int (1 : Int32)), .val (.ref a26), .val (.ref a30), .val (.int (1 : Int32))] [(.long ((own_o (own_g p8) ka ((1 : Int64) <<< (xa.toInt32 &&& 0x3f).toInt64)) 3))]))
          refine Jvm.OwnW.iconst O41 at_315 (r := (3 : Int32)) rfl (q := 316) rfl ?_
          refine Jvm.OwnW.lload O41 at_316 rfl (q := 318) rfl ?_
          refine Jvm.OwnW.lload O41 at_318 rfl (q := 320) rfl ?_
          refine Jvm.OwnW.lload O41 at_320 rfl (q := 322) rfl ?_
          refine Jvm.OwnW.lload O41 at_322 rfl (q := 324) rfl ?_
          refine Jvm.OwnW.iload O41 at_324 rfl (q := 326) rfl ?_
          refine Jvm.OwnW.callS0 O41 (y := (⟨"com/example/occupancy/occupancy/cell/internal/BitCellsSetAllPinLaw", "expected", "(IJJJJI)J"⟩ : MethodName)) (argsL := [(.int (3 : Int32)), (.long p8), (.long xa), (.long xb), (.long xc), (.int (1 : Int32))]) (rest := [(.long ((own_o (own_g p8) ka ((1 : Int64) <<< (xa.toInt32 &&& 0x3f).toInt64)) 3))]) at_326 (hw _ (List.mem_of_getElem? (i := 63) rfl)) (hw _ (List.mem_of_getElem? (i := 64) rfl)) (hw _ (List.mem_of_getElem? (i := 65) rfl)) (hw _ (List.mem_of_getElem? (i := 66) rfl)) (by decide) (rm_e l Z a0 hw (3 : Int32) p8 xa xb xc (1 : Int32) h33) rfl pd_11 rfl (hst := rfl) (W := 2) (Nat.le_of_eq rfl) (by decide) (by decide) (c2 := 5) (s2 := 49) rfl rfl (by decide) (by decide) rfl rfl (q := 329) rfl ?_
          intro v42 T42 O42 q42
          obtain rfl := q42
          show Go C _ _ _ _ (T42.setTop (mkF C.m 329 #[.val (.int p0), .val (.int p1), .val (.long p2), .second, .val (.long p4), .second, .val (.long p6), .second, .val (.long p8), .second, .val (.long m), .second, .val (.int wc), .val (.long sp), .second, .val (.long xa), .second, .val (.long xb), .second, .val (.long xc), .second, .val (.int (1 : Int32)), .val (.ref a26), .val (.ref a30), .val (.int (1 : Int32))] [(.long (fn_e (3 : Int32) p8 xa xb xc (1 : Int32))), (.long ((own_o (own_g p8) ka ((1 : Int64) <<< (xa.toInt32 &&& 0x3f).toInt64)) 3))]))
          refine Jvm.OwnW.lcmp O42 at_329 rfl (q := 330) rfl ?_
          refine Jvm.OwnW.ifNo O42 at_330 (teqL (show ((own_o (own_g p8) ka ((1 : Int64) <<< (xa.toInt32 &&& 0x3f).toInt64)) 3) = (fn_e (3 : Int32) p8 xa xb xc (1 : Int32)) from (by have q := own_e1 p8 xa xb xc xan xbn xcn hxan hxbn hxcn (3 : Int32) 3 rfl; (try simp only [hqa, hqb, hqc] at q); exact q))).2 (q := 333) rfl ?_
          refine Jvm.OwnW.iconst O42 at_333 (r := (1 : Int32)) rfl (q := 334) rfl ?_
          refine Jvm.OwnW.goto O42 at_334 (by decide) (q := 338) rfl ?_
          refine Jvm.OwnW.istore O42 at_338 (L' := #[.val (.int p0), .val (.int p1), .val (.long p2), .second, .val (.long p4), .second, .val (.long p6), .second, .val (.long p8), .second, .val (.long m), .second, .val (.int wc), .val (.long sp), .second, .val (.long xa), .second, .val (.long xb), .second, .val (.long xc), .second, .val (.int (1 : Int32)), .val (.ref a26), .val (.ref a30), .val (.int (1 : Int32))]) rfl (q := 340) rfl ?_
          refine Jvm.OwnW.iload O42 at_340 rfl (q := 342) rfl ?_
          exact Jvm.OwnW.retB O42 at_342 rfl (Or.inr rfl) (by decide) (by decide) rfl
        · refine Jvm.OwnW.icmpYes O40 at_301 (flt hc301).2.2.2 (by decide) (q := 340) rfl ?_
          refine Jvm.OwnW.iload O40 at_340 rfl (q := 342) rfl ?_
          exact Jvm.OwnW.retB O40 at_342 rfl (Or.inr rfl) (by decide) (by decide) rfl
      · refine Jvm.OwnW.icmpYes O38 at_259 (flt hc259).2.2.2 (by decide) (q := 298) rfl ?_
        refine Jvm.OwnW.iload O38 at_298 rfl (q := 300) rfl ?_
        refine Jvm.OwnW.iconst O38 at_300 (r := (3 : Int32)) rfl (q := 301) rfl ?_
        by_cases hc301 : (3 : Int32) < wc
        · refine Jvm.OwnW.icmpNo O38 at_301 (tlt hc301).2.2.2 (q := 304) rfl ?_
          refine Jvm.OwnW.iload O38 at_304 rfl (q := 306) rfl ?_
          refine Jvm.OwnW.ifNo O38 at_306 (feq0 (show ¬ ((1 : Int32) = (0 : Int32)) from (by decide))).1 (q := 309) rfl ?_
          refine Jvm.OwnW.aload O38 at_309 rfl rfl (q := 311) rfl ?_
          refine Jvm.OwnW.iconst O38 at_311 (r := (3 : Int32)) rfl (q := 312) rfl ?_
          refine Jvm.OwnW.callV0 O38 (y := (⟨"com/example/occupancy/occupancy/cell/internal/BitCells", "word", "(I)J"⟩ : MethodName)) (z := (⟨"com/example/occupancy/occupancy/cell/internal/BitCells", "word", "(I)J"⟩ : MethodName)) (a := a30) (argsL := [(.int (3 : Int32))]) (rest := []) at_312 (hw _ (List.mem_of_getElem? (i := 58) rfl)) (hw _ (List.mem_of_getElem? (i := 59) rfl)) (hw _ (List.mem_of_getElem? (i := 61) rfl)) rfl (hw _ (List.mem_of_getElem? (i := 60) rfl)) (hw _ (List.mem_of_getElem? (i := 6) rfl)) (hw _ (List.mem_of_getElem? (i := 62) rfl)) (by decide) (rm_o l Z a0 hw a30 (3 : Int32) al 3 nn (own_o (own_g p8) ka ((1 : Int64) <<< (xa.toInt32 &&& 0x3f).toInt64)) h33 E_a30 F_words_a30 V_al rfl (by rw [Int32.lt_iff_toInt_lt, hnn] at hc301; have q : (3 : Int32).toInt = 3 := rfl; omega)) E_a30 rfl pd_10 rfl (hst := rfl) (W := 0) (Nat.le_of_eq rfl) (by decide) (by decide) (c2 := 5) (s2 := 49) rfl rfl (by decide) (by decide) rfl rfl (q := 315) rfl ?_
          intro v43 T43 O43 q43
          obtain rfl := q43
          show Go C _ _ _ _ (T43.setTop (mkF C.m 315 #[.val (.int p0), .val (.int p1), .val (.long p2), .second, .val (.long p4), .second, .val (.long p6), .second, .val (.long p8), .second, .val (.long m), .second, .val (.int wc), .val (.long sp), .second, .val (.long xa), .second, .val (.long xb), .second, .val (.long xc), .second, .val (.int (1 : Int32)), .val (.ref a26), .val (.ref a30), .val (.int (1 : Int32))] [(.long ((own_o (own_g p8) ka ((1 : Int64) <<< (xa.toInt32 &&& 0x3f).toInt64)) 3))]))
          refine Jvm.OwnW.iconst O43 at_315 (r := (3 : Int32)) rfl (q := 316) rfl ?_
          refine Jvm.OwnW.lload O43 at_316 rfl (q := 318) rfl ?_
          refine Jvm.OwnW.lload O43 at_318 rfl (q := 320) rfl ?_
          refine Jvm.OwnW.lload O43 at_320 rfl (q := 322) rfl ?_
          refine Jvm.OwnW.lload O43 at_322 rfl (q := 324) rfl ?_
          refine Jvm.OwnW.iload O43 at_324 rfl (q := 326) rfl ?_
          refine Jvm.OwnW.callS0 O43 (y := (⟨"com/example/occupancy/occupancy/cell/internal/BitCellsSetAllPinLaw", "expected", "(IJJJJI)J"⟩ : MethodName)) (argsL := [(.int (3 : Int32)), (.long p8), (.long xa), (.long xb), (.long xc), (.int (1 : Int32))]) (rest := [(.long ((own_o (own_g p8) ka ((1 : Int64) <<< (xa.toInt32 &&& 0x3f).toInt64)) 3))]) at_326 (hw _ (List.mem_of_getElem? (i := 63) rfl)) (hw _ (List.mem_of_getElem? (i := 64) rfl)) (hw _ (List.mem_of_getElem? (i := 65) rfl)) (hw _ (List.mem_of_getElem? (i := 66) rfl)) (by decide) (rm_e l Z a0 hw (3 : Int32) p8 xa xb xc (1 : Int32) h33) rfl pd_11 rfl (hst := rfl) (W := 2) (Nat.le_of_eq rfl) (by decide) (by decide) (c2 := 5) (s2 := 49) rfl rfl (by decide) (by decide) rfl rfl (q := 329) rfl ?_
          intro v44 T44 O44 q44
          obtain rfl := q44
          show Go C _ _ _ _ (T44.setTop (mkF C.m 329 #[.val (.int p0), .val (.int p1), .val (.long p2), .second, .val (.long p4), .second, .val (.long p6), .second, .val (.long p8), .second, .val (.long m), .second, .val (.int wc), .val (.long sp), .second, .val (.long xa), .second, .val (.long xb), .second, .val (.long xc), .second, .val (.int (1 : Int32)), .val (.ref a26), .val (.ref a30), .val (.int (1 : Int32))] [(.long (fn_e (3 : Int32) p8 xa xb xc (1 : Int32))), (.long ((own_o (own_g p8) ka ((1 : Int64) <<< (xa.toInt32 &&& 0x3f).toInt64)) 3))]))
          refine Jvm.OwnW.lcmp O44 at_329 rfl (q := 330) rfl ?_
          refine Jvm.OwnW.ifNo O44 at_330 (teqL (show ((own_o (own_g p8) ka ((1 : Int64) <<< (xa.toInt32 &&& 0x3f).toInt64)) 3) = (fn_e (3 : Int32) p8 xa xb xc (1 : Int32)) from (by have q := own_e1 p8 xa xb xc xan xbn xcn hxan hxbn hxcn (3 : Int32) 3 rfl; (try simp only [hqa, hqb, hqc] at q); exact q))).2 (q := 333) rfl ?_
          refine Jvm.OwnW.iconst O44 at_333 (r := (1 : Int32)) rfl (q := 334) rfl ?_
          refine Jvm.OwnW.goto O44 at_334 (by decide) (q := 338) rfl ?_
          refine Jvm.OwnW.istore O44 at_338 (L' := #[.val (.int p0), .val (.int p1), .val (.long p2), .second, .val (.long p4), .second, .val (.long p6), .second, .val (.long p8), .second, .val (.long m), .second, .val (.int wc), .val (.long sp), .second, .val (.long xa), .second, .val (.long xb), .second, .val (.long xc), .second, .val (.int (1 : Int32)), .val (.ref a26), .val (.ref a30), .val (.int (1 : Int32))]) rfl (q := 340) rfl ?_
          refine Jvm.OwnW.iload O44 at_340 rfl (q := 342) rfl ?_
          exact Jvm.OwnW.retB O44 at_342 rfl (Or.inr rfl) (by decide) (by decide) rfl
        · refine Jvm.OwnW.icmpYes O38 at_301 (flt hc301).2.2.2 (by decide) (q := 340) rfl ?_
          refine Jvm.OwnW.iload O38 at_340 rfl (q := 342) rfl ?_
          exact Jvm.OwnW.retB O38 at_342 rfl (Or.inr rfl) (by decide) (by decide) rfl
    · refine Jvm.OwnW.icmpYes O36 at_217 (flt hc217).2.2.2 (by decide) (q := 256) rfl ?_
      refine Jvm.OwnW.iload O36 at_256 rfl (q := 258) rfl ?_
      refine Jvm.OwnW.iconst O36 at_258 (r := (2 : Int32)) rfl (q := 259) rfl ?_
      by_cases hc259 : (2 : Int32) < wc
      · refine Jvm.OwnW.icmpNo O36 at_259 (tlt hc259).2.2.2 (q := 262) rfl ?_
        refine Jvm.OwnW.iload O36 at_262 rfl (q := 264) rfl ?_
        refine Jvm.OwnW.ifNo O36 at_264 (feq0 (show ¬ ((1 : Int32) = (0 : Int32)) from (by decide))).1 (q := 267) rfl ?_
        refine Jvm.OwnW.aload O36 at_267 rfl rfl (q := 269) rfl ?_
        refine Jvm.OwnW.iconst O36 at_269 (r := (2 : Int32)) rfl (q := 270) rfl ?_
        refine Jvm.OwnW.callV0 O36 (y := (⟨"com/example/occupancy/occupancy/cell/internal/BitCells", "word", "(I)J"⟩ : MethodName)) (z := (⟨"com/example/occupancy/occupancy/cell/internal/BitCells", "word", "(I)J"⟩ : MethodName)) (a := a30) (argsL := [(.int (2 : Int32))]) (rest := []) at_270 (hw _ (List.mem_of_getElem? (i := 58) rfl)) (hw _ (List.mem_of_getElem? (i := 59) rfl)) (hw _ (List.mem_of_getElem? (i := 61) rfl)) rfl (hw _ (List.mem_of_getElem? (i := 60) rfl)) (hw _ (List.mem_of_getElem? (i := 6) rfl)) (hw _ (List.mem_of_getElem? (i := 62) rfl)) (by decide) (rm_o l Z a0 hw a30 (2 : Int32) al 2 nn (own_o (own_g p8) ka ((1 : Int64) <<< (xa.toInt32 &&& 0x3f).toInt64)) h33 E_a30 F_words_a30 V_al rfl (by rw [Int32.lt_iff_toInt_lt, hnn] at hc259; have q : (2 : Int32).toInt = 2 := rfl; omega)) E_a30 rfl pd_10 rfl (hst := rfl) (W := 0) (Nat.le_of_eq rfl) (by decide) (by decide) (c2 := 5) (s2 := 49) rfl rfl (by decide) (by decide) rfl rfl (q := 273) rfl ?_
        intro v45 T45 O45 q45
        obtain rfl := q45
        show Go C _ _ _ _ (T45.setTop (mkF C.m 273 #[.val (.int p0), .val (.int p1), .val (.long p2), .second, .val (.long p4), .second, .val (.long p6), .second, .val (.long p8), .second, .val (.long m), .second, .val (.int wc), .val (.long sp), .second, .val (.long xa), .second, .val (.long xb), .second, .val (.long xc), .second, .val (.int (1 : Int32)), .val (.ref a26), .val (.ref a30), .val (.int (1 : Int32))] [(.long ((own_o (own_g p8) ka ((1 : Int64) <<< (xa.toInt32 &&& 0x3f).toInt64)) 2))]))
        refine Jvm.OwnW.iconst O45 at_273 (r := (2 : Int32)) rfl (q := 274) rfl ?_
        refine Jvm.OwnW.lload O45 at_274 rfl (q := 276) rfl ?_
        refine Jvm.OwnW.lload O45 at_276 rfl (q := 278) rfl ?_
        refine Jvm.OwnW.lload O45 at_278 rfl (q := 280) rfl ?_
        refine Jvm.OwnW.lload O45 at_280 rfl (q := 282) rfl ?_
        refine Jvm.OwnW.iload O45 at_282 rfl (q := 284) rfl ?_
        refine Jvm.OwnW.callS0 O45 (y := (⟨"com/example/occupancy/occupancy/cell/internal/BitCellsSetAllPinLaw", "expected", "(IJJJJI)J"⟩ : MethodName)) (argsL := [(.int (2 : Int32)), (.long p8), (.long xa), (.long xb), (.long xc), (.int (1 : Int32))]) (rest := [(.long ((own_o (own_g p8) ka ((1 : Int64) <<< (xa.toInt32 &&& 0x3f).toInt64)) 2))]) at_284 (hw _ (List.mem_of_getElem? (i := 63) rfl)) (hw _ (List.mem_of_getElem? (i := 64) rfl)) (hw _ (List.mem_of_getElem? (i := 65) rfl)) (hw _ (List.mem_of_getElem? (i := 66) rfl)) (by decide) (rm_e l Z a0 hw (2 : Int32) p8 xa xb xc (1 : Int32) h33) rfl pd_11 rfl (hst := rfl) (W := 2) (Nat.le_of_eq rfl) (by decide) (by decide) (c2 := 5) (s2 := 49) rfl rfl (by decide) (by decide) rfl rfl (q := 287) rfl ?_
        intro v46 T46 O46 q46
        obtain rfl := q46
        show Go C _ _ _ _ (T46.setTop (mkF C.m 287 #[.val (.int p0), .val (.int p1), .val (.long p2), .second, .val (.long p4), .second, .val (.long p6), .second, .val (.long p8), .second, .val (.long m), .second, .val (.int wc), .val (.long sp), .second, .val (.long xa), .second, .val (.long xb), .second, .val (.long xc), .second, .val (.int (1 : Int32)), .val (.ref a26), .val (.ref a30), .val (.int (1 : Int32))] [(.long (fn_e (2 : Int32) p8 xa xb xc (1 : Int32))), (.long ((own_o (own_g p8) ka ((1 : Int64) <<< (xa.toInt32 &&& 0x3f).toInt64)) 2))]))
        refine Jvm.OwnW.lcmp O46 at_287 rfl (q := 288) rfl ?_
        refine Jvm.OwnW.ifNo O46 at_288 (teqL (show ((own_o (own_g p8) ka ((1 : Int64) <<< (xa.toInt32 &&& 0x3f).toInt64)) 2) = (fn_e (2 : Int32) p8 xa xb xc (1 : Int32)) from (by have q := own_e1 p8 xa xb xc xan xbn xcn hxan hxbn hxcn (2 : Int32) 2 rfl; (try simp only [hqa, hqb, hqc] at q); exact q))).2 (q := 291) rfl ?_
        refine Jvm.OwnW.iconst O46 at_291 (r := (1 : Int32)) rfl (q := 292) rfl ?_
        refine Jvm.OwnW.goto O46 at_292 (by decide) (q := 296) rfl ?_
        refine Jvm.OwnW.istore O46 at_296 (L' := #[.val (.int p0), .val (.int p1), .val (.long p2), .second, .val (.long p4), .second, .val (.long p6), .second, .val (.long p8), .second, .val (.long m), .second, .val (.int wc), .val (.long sp), .second, .val (.long xa), .second, .val (.long xb), .second, .val (.long xc), .second, .val (.int (1 : Int32)), .val (.ref a26), .val (.ref a30), .val (.int (1 : Int32))]) rfl (q := 298) rfl ?_
        refine Jvm.OwnW.iload O46 at_298 rfl (q := 300) rfl ?_
        refine Jvm.OwnW.iconst O46 at_300 (r := (3 : Int32)) rfl (q := 301) rfl ?_
        by_cases hc301 : (3 : Int32) < wc
        · refine Jvm.OwnW.icmpNo O46 at_301 (tlt hc301).2.2.2 (q := 304) rfl ?_
          refine Jvm.OwnW.iload O46 at_304 rfl (q := 306) rfl ?_
          refine Jvm.OwnW.ifNo O46 at_306 (feq0 (show ¬ ((1 : Int32) = (0 : Int32)) from (by decide))).1 (q := 309) rfl ?_
          refine Jvm.OwnW.aload O46 at_309 rfl rfl (q := 311) rfl ?_
          refine Jvm.OwnW.iconst O46 at_311 (r := (3 : Int32)) rfl (q := 312) rfl ?_
          refine Jvm.OwnW.callV0 O46 (y := (⟨"com/example/occupancy/occupancy/cell/internal/BitCells", "word", "(I)J"⟩ : MethodName)) (z := (⟨"com/example/occupancy/occupancy/cell/internal/BitCells", "word", "(I)J"⟩ : MethodName)) (a := a30) (argsL := [(.int (3 : Int32))]) (rest := []) at_312 (hw _ (List.mem_of_getElem? (i := 58) rfl)) (hw _ (List.mem_of_getElem? (i := 59) rfl)) (hw _ (List.mem_of_getElem? (i := 61) rfl)) rfl (hw _ (List.mem_of_getElem? (i := 60) rfl)) (hw _ (List.mem_of_getElem? (i := 6) rfl)) (hw _ (List.mem_of_getElem? (i := 62) rfl)) (by decide) (rm_o l Z a0 hw a30 (3 : Int32) al 3 nn (own_o (own_g p8) ka ((1 : Int64) <<< (xa.toInt32 &&& 0x3f).toInt64)) h33 E_a30 F_words_a30 V_al rfl (by rw [Int32.lt_iff_toInt_lt, hnn] at hc301; have q : (3 : Int32).toInt = 3 := rfl; omega)) E_a30 rfl pd_10 rfl (hst := rfl) (W := 0) (Nat.le_of_eq rfl) (by decide) (by decide) (c2 := 5) (s2 := 49) rfl rfl (by decide) (by decide) rfl rfl (q := 315) rfl ?_
          intro v47 T47 O47 q47
          obtain rfl := q47
          show Go C _ _ _ _ (T47.setTop (mkF C.m 315 #[.val (.int p0), .val (.int p1), .val (.long p2), .second, .val (.long p4), .second, .val (.long p6), .second, .val (.long p8), .second, .val (.long m), .second, .val (.int wc), .val (.long sp), .second, .val (.long xa), .second, .val (.long xb), .second, .val (.long xc), .second, .val (.int (1 : Int32)), .val (.ref a26), .val (.ref a30), .val (.int (1 : Int32))] [(.long ((own_o (own_g p8) ka ((1 : Int64) <<< (xa.toInt32 &&& 0x3f).toInt64)) 3))]))
          refine Jvm.OwnW.iconst O47 at_315 (r := (3 : Int32)) rfl (q := 316) rfl ?_
          refine Jvm.OwnW.lload O47 at_316 rfl (q := 318) rfl ?_
          refine Jvm.OwnW.lload O47 at_318 rfl (q := 320) rfl ?_
          refine Jvm.OwnW.lload O47 at_320 rfl (q := 322) rfl ?_
          refine Jvm.OwnW.lload O47 at_322 rfl (q := 324) rfl ?_
          refine Jvm.OwnW.iload O47 at_324 rfl (q := 326) rfl ?_
          refine Jvm.OwnW.callS0 O47 (y := (⟨"com/example/occupancy/occupancy/cell/internal/BitCellsSetAllPinLaw", "expected", "(IJJJJI)J"⟩ : MethodName)) (argsL := [(.int (3 : Int32)), (.long p8), (.long xa), (.long xb), (.long xc), (.int (1 : Int32))]) (rest := [(.long ((own_o (own_g p8) ka ((1 : Int64) <<< (xa.toInt32 &&& 0x3f).toInt64)) 3))]) at_326 (hw _ (List.mem_of_getElem? (i := 63) rfl)) (hw _ (List.mem_of_getElem? (i := 64) rfl)) (hw _ (List.mem_of_getElem? (i := 65) rfl)) (hw _ (List.mem_of_getElem? (i := 66) rfl)) (by decide) (rm_e l Z a0 hw (3 : Int32) p8 xa xb xc (1 : Int32) h33) rfl pd_11 rfl (hst := rfl) (W := 2) (Nat.le_of_eq rfl) (by decide) (by decide) (c2 := 5) (s2 := 49) rfl rfl (by decide) (by decide) rfl rfl (q := 329) rfl ?_
          intro v48 T48 O48 q48
          obtain rfl := q48
          show Go C _ _ _ _ (T48.setTop (mkF C.m 329 #[.val (.int p0), .val (.int p1), .val (.long p2), .second, .val (.long p4), .second, .val (.long p6), .second, .val (.long p8), .second, .val (.long m), .second, .val (.int wc), .val (.long sp), .second, .val (.long xa), .second, .val (.long xb), .second, .val (.long xc), .second, .val (.int (1 : Int32)), .val (.ref a26), .val (.ref a30), .val (.int (1 : Int32))] [(.long (fn_e (3 : Int32) p8 xa xb xc (1 : Int32))), (.long ((own_o (own_g p8) ka ((1 : Int64) <<< (xa.toInt32 &&& 0x3f).toInt64)) 3))]))
          refine Jvm.OwnW.lcmp O48 at_329 rfl (q := 330) rfl ?_
          refine Jvm.OwnW.ifNo O48 at_330 (teqL (show ((own_o (own_g p8) ka ((1 : Int64) <<< (xa.toInt32 &&& 0x3f).toInt64)) 3) = (fn_e (3 : Int32) p8 xa xb xc (1 : Int32)) from (by have q := own_e1 p8 xa xb xc xan xbn xcn hxan hxbn hxcn (3 : Int32) 3 rfl; (try simp only [hqa, hqb, hqc] at q); exact q))).2 (q := 333) rfl ?_
          refine Jvm.OwnW.iconst O48 at_333 (r := (1 : Int32)) rfl (q := 334) rfl ?_
          refine Jvm.OwnW.goto O48 at_334 (by decide) (q := 338) rfl ?_
          refine Jvm.OwnW.istore O48 at_338 (L' := #[.val (.int p0), .val (.int p1), .val (.long p2), .second, .val (.long p4), .second, .val (.long p6), .second, .val (.long p8), .second, .val (.long m), .second, .val (.int wc), .val (.long sp), .second, .val (.long xa), .second, .val (.long xb), .second, .val (.long xc), .second, .val (.int (1 : Int32)), .val (.ref a26), .val (.ref a30), .val (.int (1 : Int32))]) rfl (q := 340) rfl ?_
          refine Jvm.OwnW.iload O48 at_340 rfl (q := 342) rfl ?_
          exact Jvm.OwnW.retB O48 at_342 rfl (Or.inr rfl) (by decide) (by decide) rfl
        · refine Jvm.OwnW.icmpYes O46 at_301 (flt hc301).2.2.2 (by decide) (q := 340) rfl ?_
          refine Jvm.OwnW.iload O46 at_340 rfl (q := 342) rfl ?_
          exact Jvm.OwnW.retB O46 at_342 rfl (Or.inr rfl) (by decide) (by decide) rfl
      · refine Jvm.OwnW.icmpYes O36 at_259 (flt hc259).2.2.2 (by decide) (q := 298) rfl ?_
        refine Jvm.OwnW.iload O36 at_298 rfl (q := 300) rfl ?_
        refine Jvm.OwnW.iconst O36 at_300 (r := (3 : Int32)) rfl (q := 301) rfl ?_
        by_cases hc301 : (3 : Int32) < wc
        · refine Jvm.OwnW.icmpNo O36 at_301 (tlt hc301).2.2.2 (q := 304) rfl ?_
          refine Jvm.OwnW.iload O36 at_304 rfl (q := 306) rfl ?_
          refine Jvm.OwnW.ifNo O36 at_306 (feq0 (show ¬ ((1 : Int32) = (0 : Int32)) from (by decide))).1 (q := 309) rfl ?_
          refine Jvm.OwnW.aload O36 at_309 rfl rfl (q := 311) rfl ?_
          refine Jvm.OwnW.iconst O36 at_311 (r := (3 : Int32)) rfl (q := 312) rfl ?_
          refine Jvm.OwnW.callV0 O36 (y := (⟨"com/example/occupancy/occupancy/cell/internal/BitCells", "word", "(I)J"⟩ : MethodName)) (z := (⟨"com/example/occupancy/occupancy/cell/internal/BitCells", "word", "(I)J"⟩ : MethodName)) (a := a30) (argsL := [(.int (3 : Int32))]) (rest := []) at_312 (hw _ (List.mem_of_getElem? (i := 58) rfl)) (hw _ (List.mem_of_getElem? (i := 59) rfl)) (hw _ (List.mem_of_getElem? (i := 61) rfl)) rfl (hw _ (List.mem_of_getElem? (i := 60) rfl)) (hw _ (List.mem_of_getElem? (i := 6) rfl)) (hw _ (List.mem_of_getElem? (i := 62) rfl)) (by decide) (rm_o l Z a0 hw a30 (3 : Int32) al 3 nn (own_o (own_g p8) ka ((1 : Int64) <<< (xa.toInt32 &&& 0x3f).toInt64)) h33 E_a30 F_words_a30 V_al rfl (by rw [Int32.lt_iff_toInt_lt, hnn] at hc301; have q : (3 : Int32).toInt = 3 := rfl; omega)) E_a30 rfl pd_10 rfl (hst := rfl) (W := 0) (Nat.le_of_eq rfl) (by decide) (by decide) (c2 := 5) (s2 := 49) rfl rfl (by decide) (by decide) rfl rfl (q := 315) rfl ?_
          intro v49 T49 O49 q49
          obtain rfl := q49
          show Go C _ _ _ _ (T49.setTop (mkF C.m 315 #[.val (.int p0), .val (.int p1), .val (.long p2), .second, .val (.long p4), .second, .val (.long p6), .second, .val (.long p8), .second, .val (.long m), .second, .val (.int wc), .val (.long sp), .second, .val (.long xa), .second, .val (.long xb), .second, .val (.long xc), .second, .val (.int (1 : Int32)), .val (.ref a26), .val (.ref a30), .val (.int (1 : Int32))] [(.long ((own_o (own_g p8) ka ((1 : Int64) <<< (xa.toInt32 &&& 0x3f).toInt64)) 3))]))
          refine Jvm.OwnW.iconst O49 at_315 (r := (3 : Int32)) rfl (q := 316) rfl ?_
          refine Jvm.OwnW.lload O49 at_316 rfl (q := 318) rfl ?_
          refine Jvm.OwnW.lload O49 at_318 rfl (q := 320) rfl ?_
          refine Jvm.OwnW.lload O49 at_320 rfl (q := 322) rfl ?_
          refine Jvm.OwnW.lload O49 at_322 rfl (q := 324) rfl ?_
          refine Jvm.OwnW.iload O49 at_324 rfl (q := 326) rfl ?_
          refine Jvm.OwnW.callS0 O49 (y := (⟨"com/example/occupancy/occupancy/cell/internal/BitCellsSetAllPinLaw", "expected", "(IJJJJI)J"⟩ : MethodName)) (argsL := [(.int (3 : Int32)), (.long p8), (.long xa), (.long xb), (.long xc), (.int (1 : Int32))]) (rest := [(.long ((own_o (own_g p8) ka ((1 : Int64) <<< (xa.toInt32 &&& 0x3f).toInt64)) 3))]) at_326 (hw _ (List.mem_of_getElem? (i := 63) rfl)) (hw _ (List.mem_of_getElem? (i := 64) rfl)) (hw _ (List.mem_of_getElem? (i := 65) rfl)) (hw _ (List.mem_of_getElem? (i := 66) rfl)) (by decide) (rm_e l Z a0 hw (3 : Int32) p8 xa xb xc (1 : Int32) h33) rfl pd_11 rfl (hst := rfl) (W := 2) (Nat.le_of_eq rfl) (by decide) (by decide) (c2 := 5) (s2 := 49) rfl rfl (by decide) (by decide) rfl rfl (q := 329) rfl ?_
          intro v50 T50 O50 q50
          obtain rfl := q50
          show Go C _ _ _ _ (T50.setTop (mkF C.m 329 #[.val (.int p0), .val (.int p1), .val (.long p2), .second, .val (.long p4), .second, .val (.long p6), .second, .val (.long p8), .second, .val (.long m), .second, .val (.int wc), .val (.long sp), .second, .val (.long xa), .second, .val (.long xb), .second, .val (.long xc), .second, .val (.int (1 : Int32)), .val (.ref a26), .val (.ref a30), .val (.int (1 : Int32))] [(.long (fn_e (3 : Int32) p8 xa xb xc (1 : Int32))), (.long ((own_o (own_g p8) ka ((1 : Int64) <<< (xa.toInt32 &&& 0x3f).toInt64)) 3))]))
          refine Jvm.OwnW.lcmp O50 at_329 rfl (q := 330) rfl ?_
          refine Jvm.OwnW.ifNo O50 at_330 (teqL (show ((own_o (own_g p8) ka ((1 : Int64) <<< (xa.toInt32 &&& 0x3f).toInt64)) 3) = (fn_e (3 : Int32) p8 xa xb xc (1 : Int32)) from (by have q := own_e1 p8 xa xb xc xan xbn xcn hxan hxbn hxcn (3 : Int32) 3 rfl; (try simp only [hqa, hqb, hqc] at q); exact q))).2 (q := 333) rfl ?_
          refine Jvm.OwnW.iconst O50 at_333 (r := (1 : Int32)) rfl (q := 334) rfl ?_
          refine Jvm.OwnW.goto O50 at_334 (by decide) (q := 338) rfl ?_
          refine Jvm.OwnW.istore O50 at_338 (L' := #[.val (.int p0), .val (.int p1), .val (.long p2), .second, .val (.long p4), .second, .val (.long p6), .second, .val (.long p8), .second, .val (.long m), .second, .val (.int wc), .val (.long sp), .second, .val (.long xa), .second, .val (.long xb), .second, .val (.long xc), .second, .val (.int (1 : Int32)), .val (.ref a26), .val (.ref a30), .val (.int (1 : Int32))]) rfl (q := 340) rfl ?_
          refine Jvm.OwnW.iload O50 at_340 rfl (q := 342) rfl ?_
          exact Jvm.OwnW.retB O50 at_342 rfl (Or.inr rfl) (by decide) (by decide) rfl
        · refine Jvm.OwnW.icmpYes O36 at_301 (flt hc301).2.2.2 (by decide) (q := 340) rfl ?_
          refine Jvm.OwnW.iload O36 at_340 rfl (q := 342) rfl ?_
          exact Jvm.OwnW.retB O36 at_342 rfl (Or.inr rfl) (by decide) (by decide) rfl
  · skip
    obtain rfl : ct = (2 : Int32) := eq32 hcn
    show Go C _ _ _ _ (T.setTop (mkF C.m 67 #[.val (.int p0), .val (.int p1), .val (.long p2), .second, .val (.long p4), .second, .val (.long p6), .second, .val (.long p8), .second, .val (.long m), .second, .val (.int wc), .val (.long sp), .second, .val (.long xa), .second, .val (.long xb), .second, .val (.long xc), .second, .unset, .unset, .unset, .unset] [(.int (2 : Int32))]))
    refine Jvm.OwnW.istore O at_67 (L' := #[.val (.int p0), .val (.int p1), .val (.long p2), .second, .val (.long p4), .second, .val (.long p6), .second, .val (.long p8), .second, .val (.long m), .second, .val (.int wc), .val (.long sp), .second, .val (.long xa), .second, .val (.long xb), .second, .val (.long xc), .second, .val (.int (2 : Int32)), .unset, .unset, .unset]) rfl (q := 69) rfl ?_
    refine Jvm.OwnW.iconst O at_69 (r := (3 : Int32)) rfl (q := 70) rfl ?_
    refine Jvm.OwnW.newA' O at_70 (ty := .long) rfl (hw _ (List.mem_of_getElem? (i := 3) rfl)) (N := 3) rfl (cap := 3) (by decide) (by decide) (c2 := 1) (s2 := 3) rfl rfl (by decide) (by decide) (q := 72) rfl ?_
    intro a51 T51 h51 g51 N51 O51 X51 V_a51
    have V_a51 : Ar Z h51 a51 .long 3 (lf [(.long (0 : Int64)), (.long (0 : Int64)), (.long (0 : Int64))]) := V_a51.congr (lf_rep 3 _)
    refine Jvm.OwnW.dup O51 at_72 rfl (q := 73) rfl ?_
    refine Jvm.OwnW.iconst O51 at_73 (r := (0 : Int32)) rfl (q := 74) rfl ?_
    refine Jvm.OwnW.lload O51 at_74 rfl (q := 76) rfl ?_
    refine Jvm.OwnW.lasA O51 at_76 V_a51 (i := 0) rfl (by decide) (Or.inr N51) (q := 77) rfl ?_
    intro T52 h52 O52 W52
    have V_a51 : Ar Z h52 a51 .long 3 (lf [(.long xa), (.long (0 : Int64)), (.long (0 : Int64))]) := V_a51.setL W52 (by decide) (Nat.le_of_ble_eq_true rfl)
    refine Jvm.OwnW.dup O52 at_77 rfl (q := 78) rfl ?_
    refine Jvm.OwnW.iconst O52 at_78 (r := (1 : Int32)) rfl (q := 79) rfl ?_
    refine Jvm.OwnW.lload O52 at_79 rfl (q := 81) rfl ?_
    refine Jvm.OwnW.lasA O52 at_81 V_a51 (i := 1) rfl (by decide) (Or.inr N51) (q := 82) rfl ?_
    intro T53 h53 O53 W53
    have V_a51 : Ar Z h53 a51 .long 3 (lf [(.long xa), (.long xb), (.long (0 : Int64))]) := V_a51.setL W53 (by decide) (Nat.le_of_ble_eq_true rfl)
    refine Jvm.OwnW.dup O53 at_82 rfl (q := 83) rfl ?_
    refine Jvm.OwnW.iconst O53 at_83 (r := (2 : Int32)) rfl (q := 84) rfl ?_
    refine Jvm.OwnW.lload O53 at_84 rfl (q := 86) rfl ?_
    refine Jvm.OwnW.lasA O53 at_86 V_a51 (i := 2) rfl (by decide) (Or.inr N51) (q := 87) rfl ?_
    intro T54 h54 O54 W54
    have V_a51 : Ar Z h54 a51 .long 3 (lf [(.long xa), (.long xb), (.long xc)]) := V_a51.setL W54 (by decide) (Nat.le_of_ble_eq_true rfl)
    refine Jvm.OwnW.astore O54 at_87 rfl (L' := #[.val (.int p0), .val (.int p1), .val (.long p2), .second, .val (.long p4), .second, .val (.long p6), .second, .val (.long p8), .second, .val (.long m), .second, .val (.int wc), .val (.long sp), .second, .val (.long xa), .second, .val (.long xb), .second, .val (.long xc), .second, .val (.int (2 : Int32)), .val (.ref a51), .unset, .unset]) rfl (q := 89) rfl ?_
    refine Jvm.OwnW.newO O54 at_89 (hw _ (List.mem_of_getElem? (i := 4) rfl)) (hw _ (List.mem_of_getElem? (i := 5) rfl)) (hw _ (List.mem_of_getElem? (i := 6) rfl)) (c2 := 2) (s2 := 5) rfl rfl (by decide) (by decide) (q := 92) rfl ?_
    intro a55 T55 h55 g55 N55 O55 X55 E_a55 D55
    have ne_a51_a55 : a51 ≠ a55 := Nat.ne_of_lt (Nat.lt_of_lt_of_le V_a51.lt (Nat.le_of_eq g55.symm))
    have V_a51 := V_a51.ext X55
    have F_cellCount_a55 : Fld Z h55 a55 "com/example/occupancy/occupancy/cell/internal/BitCells" "cellCount" "J" (.long (0 : Int64)) := D55 (Or.inr (hw _ (List.mem_of_getElem? (i := 40) rfl))) (ty := .long) (by decide)
    have F_words_a55 : Fld Z h55 a55 "com/example/occupancy/occupancy/cell/internal/BitCells" "words" "[J" .null := D55 (Or.inr (hw _ (List.mem_of_getElem? (i := 42) rfl))) (ty := (.array .long)) (by decide)
    refine Jvm.OwnW.dup O55 at_92 rfl (q := 93) rfl ?_
    refine Jvm.OwnW.lload O55 at_93 rfl (q := 95) rfl ?_
    have lt_a51 := V_a51.lt
    have lt_a55 := E_a55.lt
    refine Jvm.OwnW.callI O55 (y := (⟨"com/example/occupancy/occupancy/cell/internal/BitCells", "<init>", "(J)V"⟩ : MethodName)) (a := a55) (argsL := [(.long m)]) (rest := [(.ref a55)]) at_95 rfl (hw _ (List.mem_of_getElem? (i := 7) rfl)) (hw _ (List.mem_of_getElem? (i := 8) rfl)) (hw _ (List.mem_of_getElem? (i := 6) rfl)) (hw _ (List.mem_of_getElem? (i := 9) rfl)) (by decide) (rm_i l Z a0 hw a55 m nn h55 E_a55 F_cellCount_a55 F_words_a55 hlo hhi hnw hn4) rfl pd_6 rfl (hst := rfl) (W := 1) (Nat.le_of_eq rfl) (by decide) (by decide) (c2 := 5) (s2 := 49) rfl rfl (by decide) (by decide) (allS (Or.inr N55) all0) (q := 98) rfl ?_
    intro v56 T56 h56 O56 K56 q56
    obtain ⟨rfl, al, m_al, F_words_a55, V_al⟩ := q56
    have V_a51 := V_a51.keep K56 (ninS ne_a51_a55 nin0)
    have E_a55 := E_a55.keep K56
    have N_al : C.s.heap.size ≤ al := Nat.le_trans O55.size m_al
    have ne_a51_al : a51 ≠ al := Nat.ne_of_lt (Nat.lt_of_lt_of_le lt_a51 m_al)
    have ne_a55_al : a55 ≠ al := Nat.ne_of_lt (Nat.lt_of_lt_of_le lt_a55 m_al)
    show Go C _ _ _ _ (T56.setTop (mkF C.m 98 #[.val (.int p0), .val (.int p1), .val (.long p2), .second, .val (.long p4), .second, .val (.long p6), .second, .val (.long p8), .second, .val (.long m), .second, .val (.int wc), .val (.long sp), .second, .val (.long xa), .second, .val (.long xb), .second, .val (.long xc), .second, .val (.int (2 : Int32)), .val (.ref a51), .unset, .unset] [(.ref a55)]))
    refine Jvm.OwnW.astore O56 at_98 rfl (L' := #[.val (.int p0), .val (.int p1), .val (.long p2), .second, .val (.long p4), .second, .val (.long p6), .second, .val (.long p8), .second, .val (.long m), .second, .val (.int wc), .val (.long sp), .second, .val (.long xa), .second, .val (.long xb), .second, .val (.long xc), .second, .val (.int (2 : Int32)), .val (.ref a51), .val (.ref a55), .unset]) rfl (q := 100) rfl ?_
    refine Jvm.OwnW.aload O56 at_100 rfl rfl (q := 102) rfl ?_
    refine Jvm.OwnW.iconst O56 at_102 (r := (0 : Int32)) rfl (q := 103) rfl ?_
    refine Jvm.OwnW.lload O56 at_103 rfl (q := 105) rfl ?_
    refine Jvm.OwnW.callV O56 (y := (⟨"com/example/occupancy/occupancy/cell/internal/BitCells", "setWord", "(IJ)V"⟩ : MethodName)) (z := (⟨"com/example/occupancy/occupancy/cell/internal/BitCells", "setWord", "(IJ)V"⟩ : MethodName)) (a := a55) (argsL := [(.int (0 : Int32)), (.long p8)]) (rest := []) at_105 (hw _ (List.mem_of_getElem? (i := 43) rfl)) (hw _ (List.mem_of_getElem? (i := 44) rfl)) (hw _ (List.mem_of_getElem? (i := 46) rfl)) rfl (hw _ (List.mem_of_getElem? (i := 45) rfl)) (hw _ (List.mem_of_getElem? (i := 6) rfl)) (hw _ (List.mem_of_getElem? (i := 47) rfl)) (by decide) (rm_s l Z a0 hw a55 p8 al nn h56 E_a55 F_words_a55 ne_a55_al V_al hn1) E_a55 rfl pd_7 rfl (hst := rfl) (W := 0) (Nat.le_of_eq rfl) (by decide) (by decide) (c2 := 5) (s2 := 49) rfl rfl (by decide) (by decide) (allS (Or.inr N_al) all0) (q := 108) rfl ?_
    intro v57 T57 h57 O57 K57 q57
    obtain ⟨rfl, V_al⟩ := q57
    have V_a51 := V_a51.keep K57 (ninS ne_a51_al nin0)
    have E_a55 := E_a55.keep K57
    have F_words_a55 := F_words_a55.keep K57 (ninS ne_a55_al nin0)
    show Go C _ _ _ _ (T57.setTop (mkF C.m 108 #[.val (.int p0), .val (.int p1), .val (.long p2), .second, .val (.long p4), .second, .val (.long p6), .second, .val (.long p8), .second, .val (.long m), .second, .val (.int wc), .val (.long sp), .second, .val (.long xa), .second, .val (.long xb), .second, .val (.long xc), .second, .val (.int (2 : Int32)), .val (.ref a51), .val (.ref a55), .unset] []))
    refine Jvm.OwnW.aload O57 at_108 rfl rfl (q := 110) rfl ?_
    refine Jvm.OwnW.aload O57 at_110 rfl rfl (q := 112) rfl ?_
    refine Jvm.OwnW.iload O57 at_112 rfl (q := 114) rfl ?_
    refine Jvm.OwnW.callV O57 (y := (⟨"com/example/occupancy/occupancy/cell/internal/BitCells", "setAll", "([JI)V"⟩ : MethodName)) (z := (⟨"com/example/occupancy/occupancy/cell/internal/BitCells", "setAll", "([JI)V"⟩ : MethodName)) (a := a55) (argsL := [(.ref a51), (.int (2 : Int32))]) (rest := []) at_114 (hw _ (List.mem_of_getElem? (i := 48) rfl)) (hw _ (List.mem_of_getElem? (i := 49) rfl)) (hw _ (List.mem_of_getElem? (i := 51) rfl)) rfl (hw _ (List.mem_of_getElem? (i := 50) rfl)) (hw _ (List.mem_of_getElem? (i := 6) rfl)) (hw _ (List.mem_of_getElem? (i := 52) rfl)) (by decide) (rm_a2 l Z a0 hw a55 a51 al xa xb xc ka kb kc nn (own_g p8) h57 E_a55 F_words_a55 ne_a55_al V_al V_a51 ne_a51_al hka hna hkb hnb hkc hnc) E_a55 rfl pd_8 rfl (hst := rfl) (W := 0) (Nat.le_of_eq rfl) (by decide) (by decide) (c2 := 5) (s2 := 49) rfl rfl (by decide) (by decide) (allS (Or.inr N_al) all0) (q := 117) rfl ?_
    intro v58 T58 h58 O58 K58 q58
    obtain ⟨rfl, V_al⟩ := q58
    have V_a51 := V_a51.keep K58 (ninS ne_a51_al nin0)
    have E_a55 := E_a55.keep K58
    have F_words_a55 := F_words_a55.keep K58 (ninS ne_a55_al nin0)
    show Go C _ _ _ _ (T58.setTop (mkF C.m 117 #[.val (.int p0), .val (.int p1), .val (.long p2), .second, .val (.long p4), .second, .val (.long p6), .second, .val (.long p8), .second, .val (.long m), .second, .val (.int wc), .val (.long sp), .second, .val (.long xa), .second, .val (.long xb), .second, .val (.long xc), .second, .val (.int (2 : Int32)), .val (.ref a51), .val (.ref a55), .unset] []))
    refine Jvm.OwnW.aload O58 at_117 rfl rfl (q := 119) rfl ?_
    refine Jvm.OwnW.iconst O58 at_119 (r := (0 : Int32)) rfl (q := 120) rfl ?_
    refine Jvm.OwnW.lalA O58 at_120 V_a51 (i := 0) rfl (by decide) (v := (.long xa)) rfl (q := 121) rfl ?_
    refine Jvm.OwnW.lload O58 at_121 rfl (q := 123) rfl ?_
    refine Jvm.OwnW.lcmp O58 at_123 rfl (q := 124) rfl ?_
    refine Jvm.OwnW.ifNo O58 at_124 (teqL (show xa = xa from rfl)).2 (q := 127) rfl ?_
    refine Jvm.OwnW.aload O58 at_127 rfl rfl (q := 129) rfl ?_
    refine Jvm.OwnW.iconst O58 at_129 (r := (1 : Int32)) rfl (q := 130) rfl ?_
    refine Jvm.OwnW.lalA O58 at_130 V_a51 (i := 1) rfl (by decide) (v := (.long xb)) rfl (q := 131) rfl ?_
    refine Jvm.OwnW.lload O58 at_131 rfl (q := 133) rfl ?_
    refine Jvm.OwnW.lcmp O58 at_133 rfl (q := 134) rfl ?_
    refine Jvm.OwnW.ifNo O58 at_134 (teqL (show xb = xb from rfl)).2 (q := 137) rfl ?_
    refine Jvm.OwnW.aload O58 at_137 rfl rfl (q := 139) rfl ?_
    refine Jvm.OwnW.iconst O58 at_139 (r := (2 : Int32)) rfl (q := 140) rfl ?_
    refine Jvm.OwnW.lalA O58 at_140 V_a51 (i := 2) rfl (by decide) (v := (.long xc)) rfl (q := 141) rfl ?_
    refine Jvm.OwnW.lload O58 at_141 rfl (q := 143) rfl ?_
    refine Jvm.OwnW.lcmp O58 at_143 rfl (q := 144) rfl ?_
    refine Jvm.OwnW.ifNo O58 at_144 (teqL (show xc = xc from rfl)).2 (q := 147) rfl ?_
    refine Jvm.OwnW.iconst O58 at_147 (r := (1 : Int32)) rfl (q := 148) rfl ?_
    refine Jvm.OwnW.goto O58 at_148 (by decide) (q := 152) rfl ?_
    refine Jvm.OwnW.istore O58 at_152 (L' := #[.val (.int p0), .val (.int p1), .val (.long p2), .second, .val (.long p4), .second, .val (.long p6), .second, .val (.long p8), .second, .val (.long m), .second, .val (.int wc), .val (.long sp), .second, .val (.long xa), .second, .val (.long xb), .second, .val (.long xc), .second, .val (.int (2 : Int32)), .val (.ref a51), .val (.ref a55), .val (.int (1 : Int32))]) rfl (q := 154) rfl ?_
    refine Jvm.OwnW.iload O58 at_154 rfl (q := 156) rfl ?_
    refine Jvm.OwnW.ifNo O58 at_156 (feq0 (show ¬ ((1 : Int32) = (0 : Int32)) from (by decide))).1 (q := 159) rfl ?_
    refine Jvm.OwnW.aload O58 at_159 rfl rfl (q := 161) rfl ?_
    refine Jvm.OwnW.callV0 O58 (y := (⟨"com/example/occupancy/occupancy/cell/internal/BitCells", "wordCount", "()J"⟩ : MethodName)) (z := (⟨"com/example/occupancy/occupancy/cell/internal/BitCells", "wordCount", "()J"⟩ : MethodName)) (a := a55) (argsL := []) (rest := []) at_161 (hw _ (List.mem_of_getElem? (i := 53) rfl)) (hw _ (List.mem_of_getElem? (i := 54) rfl)) (hw _ (List.mem_of_getElem? (i := 56) rfl)) rfl (hw _ (List.mem_of_getElem? (i := 55) rfl)) (hw _ (List.mem_of_getElem? (i := 6) rfl)) (hw _ (List.mem_of_getElem? (i := 57) rfl)) (by decide) (rm_n l Z a0 hw a55 al wc nn _ h58 E_a55 F_words_a55 V_al hnn) E_a55 rfl pd_9 rfl (hst := rfl) (W := 0) (Nat.le_of_eq rfl) (by decide) (by decide) (c2 := 5) (s2 := 49) rfl rfl (by decide) (by decide) rfl rfl (q := 164) rfl ?_
    intro v59 T59 O59 q59
    obtain rfl := q59
    show Go C _ _ _ _ (T59.setTop (mkF C.m 164 #[.val (.int p0), .val (.int p1), .val (.long p2), .second, .val (.long p4), .second, .val (.long p6), .second, .val (.long p8), .second, .val (.long m), .second, .val (.int wc), .val (.long sp), .second, .val (.long xa), .second, .val (.long xb), .second, .val (.long xc), .second, .val (.int (2 : Int32)), .val (.ref a51), .val (.ref a55), .val (.int (1 : Int32))] [(.long wc.toInt64)]))
    refine Jvm.OwnW.iload O59 at_164 rfl (q := 166) rfl ?_
    refine Jvm.OwnW.i2l O59 at_166 rfl (q := 167) rfl ?_
    refine Jvm.OwnW.lcmp O59 at_167 rfl (q := 168) rfl ?_
    refine Jvm.OwnW.ifNo O59 at_168 (teqL (show wc.toInt64 = wc.toInt64 from rfl)).2 (q := 171) rfl ?_
    refine Jvm.OwnW.iconst O59 at_171 (r := (1 : Int32)) rfl (q := 172) rfl ?_
    refine Jvm.OwnW.goto O59 at_172 (by decide) (q := 176) rfl ?_
    refine Jvm.OwnW.istore O59 at_176 (L' := #[.val (.int p0), .val (.int p1), .val (.long p2), .second, .val (.long p4), .second, .val (.long p6), .second, .val (.long p8), .second, .val (.long m), .second, .val (.int wc), .val (.long sp), .second, .val (.long xa), .second, .val (.long xb), .second, .val (.long xc), .second, .val (.int (2 : Int32)), .val (.ref a51), .val (.ref a55), .val (.int (1 : Int32))]) rfl (q := 178) rfl ?_
    refine Jvm.OwnW.iload O59 at_178 rfl (q := 180) rfl ?_
    refine Jvm.OwnW.ifNo O59 at_180 (feq0 (show ¬ ((1 : Int32) = (0 : Int32)) from (by decide))).1 (q := 183) rfl ?_
    refine Jvm.OwnW.aload O59 at_183 rfl rfl (q := 185) rfl ?_
    refine Jvm.OwnW.iconst O59 at_185 (r := (0 : Int32)) rfl (q := 186) rfl ?_
    refine Jvm.OwnW.callV0 O59 (y := (⟨"com/example/occupancy/occupancy/cell/internal/BitCells", "word", "(I)J"⟩ : MethodName)) (z := (⟨"com/example/occupancy/occupancy/cell/internal/BitCells", "word", "(I)J"⟩ : MethodName)) (a := a55) (argsL := [(.int (0 : Int32))]) (rest := []) at_186 (hw _ (List.mem_of_getElem? (i := 58) rfl)) (hw _ (List.mem_of_getElem? (i := 59) rfl)) (hw _ (List.mem_of_getElem? (i := 61) rfl)) rfl (hw _ (List.mem_of_getElem? (i := 60) rfl)) (hw _ (List.mem_of_getElem? (i := 6) rfl)) (hw _ (List.mem_of_getElem? (i := 62) rfl)) (by decide) (rm_o l Z a0 hw a55 (0 : Int32) al 0 nn (own_o (own_o (own_g p8) ka ((1 : Int64) <<< (xa.toInt32 &&& 0x3f).toInt64)) kb ((1 : Int64) <<< (xb.toInt32 &&& 0x3f).toInt64)) h58 E_a55 F_words_a55 V_al rfl hn1) E_a55 rfl pd_10 rfl (hst := rfl) (W := 0) (Nat.le_of_eq rfl) (by decide) (by decide) (c2 := 5) (s2 := 49) rfl rfl (by decide) (by decide) rfl rfl (q := 189) rfl ?_
    intro v60 T60 O60 q60
    obtain rfl := q60
    show Go C _ _ _ _ (T60.setTop (mkF C.m 189 #[.val (.int p0), .val (.int p1), .val (.long p2), .second, .val (.long p4), .second, .val (.long p6), .second, .val (.long p8), .second, .val (.long m), .second, .val (.int wc), .val (.long sp), .second, .val (.long xa), .second, .val (.long xb), .second, .val (.long xc), .second, .val (.int (2 : Int32)), .val (.ref a51), .val (.ref a55), .val (.int (1 : Int32))] [(.long ((own_o (own_o (own_g p8) ka ((1 : Int64) <<< (xa.toInt32 &&& 0x3f).toInt64)) kb ((1 : Int64) <<< (xb.toInt32 &&& 0x3f).toInt64)) 0))]))
    refine Jvm.OwnW.iconst O60 at_189 (r := (0 : Int32)) rfl (q := 190) rfl ?_
    refine Jvm.OwnW.lload O60 at_190 rfl (q := 192) rfl ?_
    refine Jvm.OwnW.lload O60 at_192 rfl (q := 194) rfl ?_
    refine Jvm.OwnW.lload O60 at_194 rfl (q := 196) rfl ?_
    refine Jvm.OwnW.lload O60 at_196 rfl (q := 198) rfl ?_
    refine Jvm.OwnW.iload O60 at_198 rfl (q := 200) rfl ?_
    refine Jvm.OwnW.callS0 O60 (y := (⟨"com/example/occupancy/occupancy/cell/internal/BitCellsSetAllPinLaw", "expected", "(IJJJJI)J"⟩ : MethodName)) (argsL := [(.int (0 : Int32)), (.long p8), (.long xa), (.long xb), (.long xc), (.int (2 : Int32))]) (rest := [(.long ((own_o (own_o (own_g p8) ka ((1 : Int64) <<< (xa.toInt32 &&& 0x3f).toInt64)) kb ((1 : Int64) <<< (xb.toInt32 &&& 0x3f).toInt64)) 0))]) at_200 (hw _ (List.mem_of_getElem? (i := 63) rfl)) (hw _ (List.mem_of_getElem? (i := 64) rfl)) (hw _ (List.mem_of_getElem? (i := 65) rfl)) (hw _ (List.mem_of_getElem? (i := 66) rfl)) (by decide) (rm_e l Z a0 hw (0 : Int32) p8 xa xb xc (2 : Int32) h58) rfl pd_11 rfl (hst := rfl) (W := 2) (Nat.le_of_eq rfl) (by decide) (by decide) (c2 := 5) (s2 := 49) rfl rfl (by decide) (by decide) rfl rfl (q := 203) rfl ?_
    intro v61 T61 O61 q61
    obtain rfl := q61
    show Go C _ _ _ _ (T61.setTop (mkF C.m 203 #[.val (.int p0), .val (.int p1), .val (.long p2), .second, .val (.long p4), .second, .val (.long p6), .second, .val (.long p8), .second, .val (.long m), .second, .val (.int wc), .val (.long sp), .second, .val (.long xa), .second, .val (.long xb), .second, .val (.long xc), .second, .val (.int (2 : Int32)), .val (.ref a51), .val (.ref a55), .val (.int (1 : Int32))] [(.long (fn_e (0 : Int32) p8 xa xb xc (2 : Int32))), (.long ((own_o (own_o (own_g p8) ka ((1 : Int64) <<< (xa.toInt32 &&& 0x3f).toInt64)) kb ((1 : Int64) <<< (xb.toInt32 &&& 0x3f).toInt64)) 0))]))
    refine Jvm.OwnW.lcmp O61 at_203 rfl (q := 204) rfl ?_
    refine Jvm.OwnW.ifNo O61 at_204 (teqL (show ((own_o (own_o (own_g p8) ka ((1 : Int64) <<< (xa.toInt32 &&& 0x3f).toInt64)) kb ((1 : Int64) <<< (xb.toInt32 &&& 0x3f).toInt64)) 0) = (fn_e (0 : Int32) p8 xa xb xc (2 : Int32)) from (by have q := own_e2 p8 xa xb xc xan xbn xcn hxan hxbn hxcn (0 : Int32) 0 rfl; (try simp only [hqa, hqb, hqc] at q); exact q))).2 (q := 207) rfl ?_
    refine Jvm.OwnW.iconst O61 at_207 (r := (1 : Int32)) rfl (q := 208) rfl ?_
    refine Jvm.OwnW.goto O61 at_208 (by decide) (q := 212) rfl ?_
    refine Jvm.OwnW.istore O61 at_212 (L' := #[.val (.int p0), .val (.int p1), .val (.long p2), .second, .val (.long p4), .second, .val (.long p6), .second, .val (.long p8), .second, .val (.long m), .second, .val (.int wc), .val (.long sp), .second, .val (.long xa), .second, .val (.long xb), .second, .val (.long xc), .second, .val (.int (2 : Int32)), .val (.ref a51), .val (.ref a55), .val (.int (1 : Int32))]) rfl (q := 214) rfl ?_
    refine Jvm.OwnW.iload O61 at_214 rfl (q := 216) rfl ?_
    refine Jvm.OwnW.iconst O61 at_216 (r := (1 : Int32)) rfl (q := 217) rfl ?_
    by_cases hc217 : (1 : Int32) < wc
    · refine Jvm.OwnW.icmpNo O61 at_217 (tlt hc217).2.2.2 (q := 220) rfl ?_
      refine Jvm.OwnW.iload O61 at_220 rfl (q := 222) rfl ?_
      refine Jvm.OwnW.ifNo O61 at_222 (feq0 (show ¬ ((1 : Int32) = (0 : Int32)) from (by decide))).1 (q := 225) rfl ?_
      refine Jvm.OwnW.aload O61 at_225 rfl rfl (q := 227) rfl ?_
      refine Jvm.OwnW.iconst O61 at_227 (r := (1 : Int32)) rfl (q := 228) rfl ?_
      refine Jvm.OwnW.callV0 O61 (y := (⟨"com/example/occupancy/occupancy/cell/internal/BitCells", "word", "(I)J"⟩ : MethodName)) (z := (⟨"com/example/occupancy/occupancy/cell/internal/BitCells", "word", "(I)J"⟩ : MethodName)) (a := a55) (argsL := [(.int (1 : Int32))]) (rest := []) at_228 (hw _ (List.mem_of_getElem? (i := 58) rfl)) (hw _ (List.mem_of_getElem? (i := 59) rfl)) (hw _ (List.mem_of_getElem? (i := 61) rfl)) rfl (hw _ (List.mem_of_getElem? (i := 60) rfl)) (hw _ (List.mem_of_getElem? (i := 6) rfl)) (hw _ (List.mem_of_getElem? (i := 62) rfl)) (by decide) (rm_o l Z a0 hw a55 (1 : Int32) al 1 nn (own_o (own_o (own_g p8) ka ((1 : Int64) <<< (xa.toInt32 &&& 0x3f).toInt64)) kb ((1 : Int64) <<< (xb.toInt32 &&& 0x3f).toInt64)) h58 E_a55 F_words_a55 V_al rfl (by rw [Int32.lt_iff_toInt_lt, hnn] at hc217; have q : (1 : Int32).toInt = 1 := rfl; omega)) E_a55 rfl pd_10 rfl (hst := rfl) (W := 0) (Nat.le_of_eq rfl) (by decide) (by decide) (c2 := 5) (s2 := 49) rfl rfl (by decide) (by decide) rfl rfl (q := 231) rfl ?_
      intro v62 T62 O62 q62
      obtain rfl := q62
      show Go C _ _ _ _ (T62.setTop (mkF C.m 231 #[.val (.int p0), .val (.int p1), .val (.long p2), .second, .val (.long p4), .second, .val (.long p6), .second, .val (.long p8), .second, .val (.long m), .second, .val (.int wc), .val (.long sp), .second, .val (.long xa), .second, .val (.long xb), .second, .val (.long xc), .second, .val (.int (2 : Int32)), .val (.ref a51), .val (.ref a55), .val (.int (1 : Int32))] [(.long ((own_o (own_o (own_g p8) ka ((1 : Int64) <<< (xa.toInt32 &&& 0x3f).toInt64)) kb ((1 : Int64) <<< (xb.toInt32 &&& 0x3f).toInt64)) 1))]))
      refine Jvm.OwnW.iconst O62 at_231 (r := (1 : Int32)) rfl (q := 232) rfl ?_
      refine Jvm.OwnW.lload O62 at_232 rfl (q := 234) rfl ?_
      refine Jvm.OwnW.lload O62 at_234 rfl (q := 236) rfl ?_
      refine Jvm.OwnW.lload O62 at_236 rfl (q := 238) rfl ?_
      refine Jvm.OwnW.lload O62 at_238 rfl (q := 240) rfl ?_
      refine Jvm.OwnW.iload O62 at_240 rfl (q := 242) rfl ?_
      refine Jvm.OwnW.callS0 O62 (y := (⟨"com/example/occupancy/occupancy/cell/internal/BitCellsSetAllPinLaw", "expected", "(IJJJJI)J"⟩ : MethodName)) (argsL := [(.int (1 : Int32)), (.long p8), (.long xa), (.long xb), (.long xc), (.int (2 : Int32))]) (rest := [(.long ((own_o (own_o (own_g p8) ka ((1 : Int64) <<< (xa.toInt32 &&& 0x3f).toInt64)) kb ((1 : Int64) <<< (xb.toInt32 &&& 0x3f).toInt64)) 1))]) at_242 (hw _ (List.mem_of_getElem? (i := 63) rfl)) (hw _ (List.mem_of_getElem? (i := 64) rfl)) (hw _ (List.mem_of_getElem? (i := 65) rfl)) (hw _ (List.mem_of_getElem? (i := 66) rfl)) (by decide) (rm_e l Z a0 hw (1 : Int32) p8 xa xb xc (2 : Int32) h58) rfl pd_11 rfl (hst := rfl) (W := 2) (Nat.le_of_eq rfl) (by decide) (by decide) (c2 := 5) (s2 := 49) rfl rfl (by decide) (by decide) rfl rfl (q := 245) rfl ?_
      intro v63 T63 O63 q63
      obtain rfl := q63
      show Go C _ _ _ _ (T63.setTop (mkF C.m 245 #[.val (.int p0), .val (.int p1), .val (.long p2), .second, .val (.long p4), .second, .val (.long p6), .second, .val (.long p8), .second, .val (.long m), .second, .val (.int wc), .val (.long sp), .second, .val (.long xa), .second, .val (.long xb), .second, .val (.long xc), .second, .val (.int (2 : Int32)), .val (.ref a51), .val (.ref a55), .val (.int (1 : Int32))] [(.long (fn_e (1 : Int32) p8 xa xb xc (2 : Int32))), (.long ((own_o (own_o (own_g p8) ka ((1 : Int64) <<< (xa.toInt32 &&& 0x3f).toInt64)) kb ((1 : Int64) <<< (xb.toInt32 &&& 0x3f).toInt64)) 1))]))
      refine Jvm.OwnW.lcmp O63 at_245 rfl (q := 246) rfl ?_
      refine Jvm.OwnW.ifNo O63 at_246 (teqL (show ((own_o (own_o (own_g p8) ka ((1 : Int64) <<< (xa.toInt32 &&& 0x3f).toInt64)) kb ((1 : Int64) <<< (xb.toInt32 &&& 0x3f).toInt64)) 1) = (fn_e (1 : Int32) p8 xa xb xc (2 : Int32)) from (by have q := own_e2 p8 xa xb xc xan xbn xcn hxan hxbn hxcn (1 : Int32) 1 rfl; (try simp only [hqa, hqb, hqc] at q); exact q))).2 (q := 249) rfl ?_
      refine Jvm.OwnW.iconst O63 at_249 (r := (1 : Int32)) rfl (q := 250) rfl ?_
      refine Jvm.OwnW.goto O63 at_250 (by decide) (q := 254) rfl ?_
      refine Jvm.OwnW.istore O63 at_254 (L' := #[.val (.int p0), .val (.int p1), .val (.long p2), .second, .val (.long p4), .second, .val (.long p6), .second, .val (.long p8), .second, .val (.long m), .second, .val (.int wc), .val (.long sp), .second, .val (.long xa), .second, .val (.long xb), .second, .val (.long xc), .second, .val (.int (2 : Int32)), .val (.ref a51), .val (.ref a55), .val (.int (1 : Int32))]) rfl (q := 256) rfl ?_
      refine Jvm.OwnW.iload O63 at_256 rfl (q := 258) rfl ?_
      refine Jvm.OwnW.iconst O63 at_258 (r := (2 : Int32)) rfl (q := 259) rfl ?_
      by_cases hc259 : (2 : Int32) < wc
      · refine Jvm.OwnW.icmpNo O63 at_259 (tlt hc259).2.2.2 (q := 262) rfl ?_
        refine Jvm.OwnW.iload O63 at_262 rfl (q := 264) rfl ?_
        refine Jvm.OwnW.ifNo O63 at_264 (feq0 (show ¬ ((1 : Int32) = (0 : Int32)) from (by decide))).1 (q := 267) rfl ?_
        refine Jvm.OwnW.aload O63 at_267 rfl rfl (q := 269) rfl ?_
        refine Jvm.OwnW.iconst O63 at_269 (r := (2 : Int32)) rfl (q := 270) rfl ?_
        refine Jvm.OwnW.callV0 O63 (y := (⟨"com/example/occupancy/occupancy/cell/internal/BitCells", "word", "(I)J"⟩ : MethodName)) (z := (⟨"com/example/occupancy/occupancy/cell/internal/BitCells", "word", "(I)J"⟩ : MethodName)) (a := a55) (argsL := [(.int (2 : Int32))]) (rest := []) at_270 (hw _ (List.mem_of_getElem? (i := 58) rfl)) (hw _ (List.mem_of_getElem? (i := 59) rfl)) (hw _ (List.mem_of_getElem? (i := 61) rfl)) rfl (hw _ (List.mem_of_getElem? (i := 60) rfl)) (hw _ (List.mem_of_getElem? (i := 6) rfl)) (hw _ (List.mem_of_getElem? (i := 62) rfl)) (by decide) (rm_o l Z a0 hw a55 (2 : Int32) al 2 nn (own_o (own_o (own_g p8) ka ((1 : Int64) <<< (xa.toInt32 &&& 0x3f).toInt64)) kb ((1 : Int64) <<< (xb.toInt32 &&& 0x3f).toInt64)) h58 E_a55 F_words_a55 V_al rfl (by rw [Int32.lt_iff_toInt_lt, hnn] at hc259; have q : (2 : Int32).toInt = 2 := rfl; omega)) E_a55 rfl pd_10 rfl (hst := rfl) (W := 0) (Nat.le_of_eq rfl) (by decide) (by decide) (c2 := 5) (s2 := 49) rfl rfl (by decide) (by decide) rfl rfl (q := 273) rfl ?_
        intro v64 T64 O64 q64
        obtain rfl := q64
        show Go C _ _ _ _ (T64.setTop (mkF C.m 273 #[.val (.int p0), .val (.int p1), .val (.long p2), .second, .val (.long p4), .second, .val (.long p6), .second, .val (.long p8), .second, .val (.long m), .second, .val (.int wc), .val (.long sp), .second, .val (.long xa), .second, .val (.long xb), .second, .val (.long xc), .second, .val (.int (2 : Int32)), .val (.ref a51), .val (.ref a55), .val (.int (1 : Int32))] [(.long ((own_o (own_o (own_g p8) ka ((1 : Int64) <<< (xa.toInt32 &&& 0x3f).toInt64)) kb ((1 : Int64) <<< (xb.toInt32 &&& 0x3f).toInt64)) 2))]))
        refine Jvm.OwnW.iconst O64 at_273 (r := (2 : Int32)) rfl (q := 274) rfl ?_
        refine Jvm.OwnW.lload O64 at_274 rfl (q := 276) rfl ?_
        refine Jvm.OwnW.lload O64 at_276 rfl (q := 278) rfl ?_
        refine Jvm.OwnW.lload O64 at_278 rfl (q := 280) rfl ?_
        refine Jvm.OwnW.lload O64 at_280 rfl (q := 282) rfl ?_
        refine Jvm.OwnW.iload O64 at_282 rfl (q := 284) rfl ?_
        refine Jvm.OwnW.callS0 O64 (y := (⟨"com/example/occupancy/occupancy/cell/internal/BitCellsSetAllPinLaw", "expected", "(IJJJJI)J"⟩ : MethodName)) (argsL := [(.int (2 : Int32)), (.long p8), (.long xa), (.long xb), (.long xc), (.int (2 : Int32))]) (rest := [(.long ((own_o (own_o (own_g p8) ka ((1 : Int64) <<< (xa.toInt32 &&& 0x3f).toInt64)) kb ((1 : Int64) <<< (xb.toInt32 &&& 0x3f).toInt64)) 2))]) at_284 (hw _ (List.mem_of_getElem? (i := 63) rfl)) (hw _ (List.mem_of_getElem? (i := 64) rfl)) (hw _ (List.mem_of_getElem? (i := 65) rfl)) (hw _ (List.mem_of_getElem? (i := 66) rfl)) (by decide) (rm_e l Z a0 hw (2 : Int32) p8 xa xb xc (2 : Int32) h58) rfl pd_11 rfl (hst := rfl) (W := 2) (Nat.le_of_eq rfl) (by decide) (by decide) (c2 := 5) (s2 := 49) rfl rfl (by decide) (by decide) rfl rfl (q := 287) rfl ?_
        intro v65 T65 O65 q65
        obtain rfl := q65
        show Go C _ _ _ _ (T65.setTop (mkF C.m 287 #[.val (.int p0), .val (.int p1), .val (.long p2), .second, .val (.long p4), .second, .val (.long p6), .second, .val (.long p8), .second, .val (.long m), .second, .val (.int wc), .val (.long sp), .second, .val (.long xa), .second, .val (.long xb), .second, .val (.long xc), .second, .val (.int (2 : Int32)), .val (.ref a51), .val (.ref a55), .val (.int (1 : Int32))] [(.long (fn_e (2 : Int32) p8 xa xb xc (2 : Int32))), (.long ((own_o (own_o (own_g p8) ka ((1 : Int64) <<< (xa.toInt32 &&& 0x3f).toInt64)) kb ((1 : Int64) <<< (xb.toInt32 &&& 0x3f).toInt64)) 2))]))
        refine Jvm.OwnW.lcmp O65 at_287 rfl (q := 288) rfl ?_
        refine Jvm.OwnW.ifNo O65 at_288 (teqL (show ((own_o (own_o (own_g p8) ka ((1 : Int64) <<< (xa.toInt32 &&& 0x3f).toInt64)) kb ((1 : Int64) <<< (xb.toInt32 &&& 0x3f).toInt64)) 2) = (fn_e (2 : Int32) p8 xa xb xc (2 : Int32)) from (by have q := own_e2 p8 xa xb xc xan xbn xcn hxan hxbn hxcn (2 : Int32) 2 rfl; (try simp only [hqa, hqb, hqc] at q); exact q))).2 (q := 291) rfl ?_
        refine Jvm.OwnW.iconst O65 at_291 (r := (1 : Int32)) rfl (q := 292) rfl ?_
        refine Jvm.OwnW.goto O65 at_292 (by decide) (q := 296) rfl ?_
        refine Jvm.OwnW.istore O65 at_296 (L' := #[.val (.int p0), .val (.int p1), .val (.long p2), .second, .val (.long p4), .second, .val (.long p6), .second, .val (.long p8), .second, .val (.long m), .second, .val (.int wc), .val (.long sp), .second, .val (.long xa), .second, .val (.long xb), .second, .val (.long xc), .second, .val (.int (2 : Int32)), .val (.ref a51), .val (.ref a55), .val (.int (1 : Int32))]) rfl (q := 298) rfl ?_
        refine Jvm.OwnW.iload O65 at_298 rfl (q := 300) rfl ?_
        refine Jvm.OwnW.iconst O65 at_300 (r := (3 : Int32)) rfl (q := 301) rfl ?_
        by_cases hc301 : (3 : Int32) < wc
        · refine Jvm.OwnW.icmpNo O65 at_301 (tlt hc301).2.2.2 (q := 304) rfl ?_
          refine Jvm.OwnW.iload O65 at_304 rfl (q := 306) rfl ?_
          refine Jvm.OwnW.ifNo O65 at_306 (feq0 (show ¬ ((1 : Int32) = (0 : Int32)) from (by decide))).1 (q := 309) rfl ?_
          refine Jvm.OwnW.aload O65 at_309 rfl rfl (q := 311) rfl ?_
          refine Jvm.OwnW.iconst O65 at_311 (r := (3 : Int32)) rfl (q := 312) rfl ?_
          refine Jvm.OwnW.callV0 O65 (y := (⟨"com/example/occupancy/occupancy/cell/internal/BitCells", "word", "(I)J"⟩ : MethodName)) (z := (⟨"com/example/occupancy/occupancy/cell/internal/BitCells", "word", "(I)J"⟩ : MethodName)) (a := a55) (argsL := [(.int (3 : Int32))]) (rest := []) at_312 (hw _ (List.mem_of_getElem? (i := 58) rfl)) (hw _ (List.mem_of_getElem? (i := 59) rfl)) (hw _ (List.mem_of_getElem? (i := 61) rfl)) rfl (hw _ (List.mem_of_getElem? (i := 60) rfl)) (hw _ (List.mem_of_getElem? (i := 6) rfl)) (hw _ (List.mem_of_getElem? (i := 62) rfl)) (by decide) (rm_o l Z a0 hw a55 (3 : Int32) al 3 nn (own_o (own_o (own_g p8) ka ((1 : Int64) <<< (xa.toInt32 &&& 0x3f).toInt64)) kb ((1 : Int64) <<< (xb.toInt32 &&& 0x3f).toInt64)) h58 E_a55 F_words_a55 V_al rfl (by rw [Int32.lt_iff_toInt_lt, hnn] at hc301; have q : (3 : Int32).toInt = 3 := rfl; omega)) E_a55 rfl pd_10 rfl (hst := rfl) (W := 0) (Nat.le_of_eq rfl) (by decide) (by decide) (c2 := 5) (s2 := 49) rfl rfl (by decide) (by decide) rfl rfl (q := 315) rfl ?_
          intro v66 T66 O66 q66
          obtain rfl := q66
          show Go C _ _ _ _ (T66.setTop (mkF C.m 315 #[.val (.int p0), .val (.int p1), .val (.long p2), .second, .val (.long p4), .second, .val (.long p6), .second, .val (.long p8), .second, .val (.long m), .second, .val (.int wc), .val (.long sp), .second, .val (.long xa), .second, .val (.long xb), .second, .val (.long xc), .second, .val (.int (2 : Int32)), .val (.ref a51), .val (.ref a55), .val (.int (1 : Int32))] [(.long ((own_o (own_o (own_g p8) ka ((1 : Int64) <<< (xa.toInt32 &&& 0x3f).toInt64)) kb ((1 : Int64) <<< (xb.toInt32 &&& 0x3f).toInt64)) 3))]))
          refine Jvm.OwnW.iconst O66 at_315 (r := (3 : Int32)) rfl (q := 316) rfl ?_
          refine Jvm.OwnW.lload O66 at_316 rfl (q := 318) rfl ?_
          refine Jvm.OwnW.lload O66 at_318 rfl (q := 320) rfl ?_
          refine Jvm.OwnW.lload O66 at_320 rfl (q := 322) rfl ?_
          refine Jvm.OwnW.lload O66 at_322 rfl (q := 324) rfl ?_
          refine Jvm.OwnW.iload O66 at_324 rfl (q := 326) rfl ?_
          refine Jvm.OwnW.callS0 O66 (y := (⟨"com/example/occupancy/occupancy/cell/internal/BitCellsSetAllPinLaw", "expected", "(IJJJJI)J"⟩ : MethodName)) (argsL := [(.int (3 : Int32)), (.long p8), (.long xa), (.long xb), (.long xc), (.int (2 : Int32))]) (rest := [(.long ((own_o (own_o (own_g p8) ka ((1 : Int64) <<< (xa.toInt32 &&& 0x3f).toInt64)) kb ((1 : Int64) <<< (xb.toInt32 &&& 0x3f).toInt64)) 3))]) at_326 (hw _ (List.mem_of_getElem? (i := 63) rfl)) (hw _ (List.mem_of_getElem? (i := 64) rfl)) (hw _ (List.mem_of_getElem? (i := 65) rfl)) (hw _ (List.mem_of_getElem? (i := 66) rfl)) (by decide) (rm_e l Z a0 hw (3 : Int32) p8 xa xb xc (2 : Int32) h58) rfl pd_11 rfl (hst := rfl) (W := 2) (Nat.le_of_eq rfl) (by decide) (by decide) (c2 := 5) (s2 := 49) rfl rfl (by decide) (by decide) rfl rfl (q := 329) rfl ?_
          intro v67 T67 O67 q67
          obtain rfl := q67
          show Go C _ _ _ _ (T67.setTop (mkF C.m 329 #[.val (.int p0), .val (.int p1), .val (.long p2), .second, .val (.long p4), .second, .val (.long p6), .second, .val (.long p8), .second, .val (.long m), .second, .val (.int wc), .val (.long sp), .second, .val (.long xa), .second, .val (.long xb), .second, .val (.long xc), .second, .val (.int (2 : Int32)), .val (.ref a51), .val (.ref a55), .val (.int (1 : Int32))] [(.long (fn_e (3 : Int32) p8 xa xb xc (2 : Int32))), (.long ((own_o (own_o (own_g p8) ka ((1 : Int64) <<< (xa.toInt32 &&& 0x3f).toInt64)) kb ((1 : Int64) <<< (xb.toInt32 &&& 0x3f).toInt64)) 3))]))
          refine Jvm.OwnW.lcmp O67 at_329 rfl (q := 330) rfl ?_
          refine Jvm.OwnW.ifNo O67 at_330 (teqL (show ((own_o (own_o (own_g p8) ka ((1 : Int64) <<< (xa.toInt32 &&& 0x3f).toInt64)) kb ((1 : Int64) <<< (xb.toInt32 &&& 0x3f).toInt64)) 3) = (fn_e (3 : Int32) p8 xa xb xc (2 : Int32)) from (by have q := own_e2 p8 xa xb xc xan xbn xcn hxan hxbn hxcn (3 : Int32) 3 rfl; (try simp only [hqa, hqb, hqc] at q); exact q))).2 (q := 333) rfl ?_
          refine Jvm.OwnW.iconst O67 at_333 (r := (1 : Int32)) rfl (q := 334) rfl ?_
          refine Jvm.OwnW.goto O67 at_334 (by decide) (q := 338) rfl ?_
          refine Jvm.OwnW.istore O67 at_338 (L' := #[.val (.int p0), .val (.int p1), .val (.long p2), .second, .val (.long p4), .second, .val (.long p6), .second, .val (.long p8), .second, .val (.long m), .second, .val (.int wc), .val (.long sp), .second, .val (.long xa), .second, .val (.long xb), .second, .val (.long xc), .second, .val (.int (2 : Int32)), .val (.ref a51), .val (.ref a55), .val (.int (1 : Int32))]) rfl (q := 340) rfl ?_
          refine Jvm.OwnW.iload O67 at_340 rfl (q := 342) rfl ?_
          exact Jvm.OwnW.retB O67 at_342 rfl (Or.inr rfl) (by decide) (by decide) rfl
        · refine Jvm.OwnW.icmpYes O65 at_301 (flt hc301).2.2.2 (by decide) (q := 340) rfl ?_
          refine Jvm.OwnW.iload O65 at_340 rfl (q := 342) rfl ?_
          exact Jvm.OwnW.retB O65 at_342 rfl (Or.inr rfl) (by decide) (by decide) rfl
      · refine Jvm.OwnW.icmpYes O63 at_259 (flt hc259).2.2.2 (by decide) (q := 298) rfl ?_
        refine Jvm.OwnW.iload O63 at_298 rfl (q := 300) rfl ?_
        refine Jvm.OwnW.iconst O63 at_300 (r := (3 : Int32)) rfl (q := 301) rfl ?_
        by_cases hc301 : (3 : Int32) < wc
        · refine Jvm.OwnW.icmpNo O63 at_301 (tlt hc301).2.2.2 (q := 304) rfl ?_
          refine Jvm.OwnW.iload O63 at_304 rfl (q := 306) rfl ?_
          refine Jvm.OwnW.ifNo O63 at_306 (feq0 (show ¬ ((1 : Int32) = (0 : Int32)) from (by decide))).1 (q := 309) rfl ?_
          refine Jvm.OwnW.aload O63 at_309 rfl rfl (q := 311) rfl ?_
          refine Jvm.OwnW.iconst O63 at_311 (r := (3 : Int32)) rfl (q := 312) rfl ?_
          refine Jvm.OwnW.callV0 O63 (y := (⟨"com/example/occupancy/occupancy/cell/internal/BitCells", "word", "(I)J"⟩ : MethodName)) (z := (⟨"com/example/occupancy/occupancy/cell/internal/BitCells", "word", "(I)J"⟩ : MethodName)) (a := a55) (argsL := [(.int (3 : Int32))]) (rest := []) at_312 (hw _ (List.mem_of_getElem? (i := 58) rfl)) (hw _ (List.mem_of_getElem? (i := 59) rfl)) (hw _ (List.mem_of_getElem? (i := 61) rfl)) rfl (hw _ (List.mem_of_getElem? (i := 60) rfl)) (hw _ (List.mem_of_getElem? (i := 6) rfl)) (hw _ (List.mem_of_getElem? (i := 62) rfl)) (by decide) (rm_o l Z a0 hw a55 (3 : Int32) al 3 nn (own_o (own_o (own_g p8) ka ((1 : Int64) <<< (xa.toInt32 &&& 0x3f).toInt64)) kb ((1 : Int64) <<< (xb.toInt32 &&& 0x3f).toInt64)) h58 E_a55 F_words_a55 V_al rfl (by rw [Int32.lt_iff_toInt_lt, hnn] at hc301; have q : (3 : Int32).toInt = 3 := rfl; omega)) E_a55 rfl pd_10 rfl (hst := rfl) (W := 0) (Nat.le_of_eq rfl) (by decide) (by decide) (c2 := 5) (s2 := 49) rfl rfl (by decide) (by decide) rfl rfl (q := 315) rfl ?_
          intro v68 T68 O68 q68
          obtain rfl := q68
          show Go C _ _ _ _ (T68.setTop (mkF C.m 315 #[.val (.int p0), .val (.int p1), .val (.long p2), .second, .val (.long p4), .second, .val (.long p6), .second, .val (.long p8), .second, .val (.long m), .second, .val (.int wc), .val (.long sp), .second, .val (.long xa), .second, .val (.long xb), .second, .val (.long xc), .second, .val (.int (2 : Int32)), .val (.ref a51), .val (.ref a55), .val (.int (1 : Int32))] [(.long ((own_o (own_o (own_g p8) ka ((1 : Int64) <<< (xa.toInt32 &&& 0x3f).toInt64)) kb ((1 : Int64) <<< (xb.toInt32 &&& 0x3f).toInt64)) 3))]))
          refine Jvm.OwnW.iconst O68 at_315 (r := (3 : Int32)) rfl (q := 316) rfl ?_
          refine Jvm.OwnW.lload O68 at_316 rfl (q := 318) rfl ?_
          refine Jvm.OwnW.lload O68 at_318 rfl (q := 320) rfl ?_
          refine Jvm.OwnW.lload O68 at_320 rfl (q := 322) rfl ?_
          refine Jvm.OwnW.lload O68 at_322 rfl (q := 324) rfl ?_
          refine Jvm.OwnW.iload O68 at_324 rfl (q := 326) rfl ?_
          refine Jvm.OwnW.callS0 O68 (y := (⟨"com/example/occupancy/occupancy/cell/internal/BitCellsSetAllPinLaw", "expected", "(IJJJJI)J"⟩ : MethodName)) (argsL := [(.int (3 : Int32)), (.long p8), (.long xa), (.long xb), (.long xc), (.int (2 : Int32))]) (rest := [(.long ((own_o (own_o (own_g p8) ka ((1 : Int64) <<< (xa.toInt32 &&& 0x3f).toInt64)) kb ((1 : Int64) <<< (xb.toInt32 &&& 0x3f).toInt64)) 3))]) at_326 (hw _ (List.mem_of_getElem? (i := 63) rfl)) (hw _ (List.mem_of_getElem? (i := 64) rfl)) (hw _ (List.mem_of_getElem? (i := 65) rfl)) (hw _ (List.mem_of_getElem? (i := 66) rfl)) (by decide) (rm_e l Z a0 hw (3 : Int32) p8 xa xb xc (2 : Int32) h58) rfl pd_11 rfl (hst := rfl) (W := 2) (Nat.le_of_eq rfl) (by decide) (by decide) (c2 := 5) (s2 := 49) rfl rfl (by decide) (by decide) rfl rfl (q := 329) rfl ?_
          intro v69 T69 O69 q69
          obtain rfl := q69
          show Go C _ _ _ _ (T69.setTop (mkF C.m 329 #[.val (.int p0), .val (.int p1), .val (.long p2), .second, .val (.long p4), .second, .val (.long p6), .second, .val (.long p8), .second, .val (.long m), .second, .val (.int wc), .val (.long sp), .second, .val (.long xa), .second, .val (.long xb), .second, .val (.long xc), .second, .val (.int (2 : Int32)), .val (.ref a51), .val (.ref a55), .val (.int (1 : Int32))] [(.long (fn_e (3 : Int32) p8 xa xb xc (2 : Int32))), (.long ((own_o (own_o (own_g p8) ka ((1 : Int64) <<< (xa.toInt32 &&& 0x3f).toInt64)) kb ((1 : Int64) <<< (xb.toInt32 &&& 0x3f).toInt64)) 3))]))
          refine Jvm.OwnW.lcmp O69 at_329 rfl (q := 330) rfl ?_
          refine Jvm.OwnW.ifNo O69 at_330 (teqL (show ((own_o (own_o (own_g p8) ka ((1 : Int64) <<< (xa.toInt32 &&& 0x3f).toInt64)) kb ((1 : Int64) <<< (xb.toInt32 &&& 0x3f).toInt64)) 3) = (fn_e (3 : Int32) p8 xa xb xc (2 : Int32)) from (by have q := own_e2 p8 xa xb xc xan xbn xcn hxan hxbn hxcn (3 : Int32) 3 rfl; (try simp only [hqa, hqb, hqc] at q); exact q))).2 (q := 333) rfl ?_
          refine Jvm.OwnW.iconst O69 at_333 (r := (1 : Int32)) rfl (q := 334) rfl ?_
          refine Jvm.OwnW.goto O69 at_334 (by decide) (q := 338) rfl ?_
          refine Jvm.OwnW.istore O69 at_338 (L' := #[.val (.int p0), .val (.int p1), .val (.long p2), .second, .val (.long p4), .second, .val (.long p6), .second, .val (.long p8), .second, .val (.long m), .second, .val (.int wc), .val (.long sp), .second, .val (.long xa), .second, .val (.long xb), .second, .val (.long xc), .second, .val (.int (2 : Int32)), .val (.ref a51), .val (.ref a55), .val (.int (1 : Int32))]) rfl (q := 340) rfl ?_
          refine Jvm.OwnW.iload O69 at_340 rfl (q := 342) rfl ?_
          exact Jvm.OwnW.retB O69 at_342 rfl (Or.inr rfl) (by decide) (by decide) rfl
        · refine Jvm.OwnW.icmpYes O63 at_301 (flt hc301).2.2.2 (by decide) (q := 340) rfl ?_
          refine Jvm.OwnW.iload O63 at_340 rfl (q := 342) rfl ?_
          exact Jvm.OwnW.retB O63 at_342 rfl (Or.inr rfl) (by decide) (by decide) rfl
    · refine Jvm.OwnW.icmpYes O61 at_217 (flt hc217).2.2.2 (by decide) (q := 256) rfl ?_
      refine Jvm.OwnW.iload O61 at_256 rfl (q := 258) rfl ?_
      refine Jvm.OwnW.iconst O61 at_258 (r := (2 : Int32)) rfl (q := 259) rfl ?_
      by_cases hc259 : (2 : Int32) < wc
      · refine Jvm.OwnW.icmpNo O61 at_259 (tlt hc259).2.2.2 (q := 262) rfl ?_
        refine Jvm.OwnW.iload O61 at_262 rfl (q := 264) rfl ?_
        refine Jvm.OwnW.ifNo O61 at_264 (feq0 (show ¬ ((1 : Int32) = (0 : Int32)) from (by decide))).1 (q := 267) rfl ?_
        refine Jvm.OwnW.aload O61 at_267 rfl rfl (q := 269) rfl ?_
        refine Jvm.OwnW.iconst O61 at_269 (r := (2 : Int32)) rfl (q := 270) rfl ?_
        refine Jvm.OwnW.callV0 O61 (y := (⟨"com/example/occupancy/occupancy/cell/internal/BitCells", "word", "(I)J"⟩ : MethodName)) (z := (⟨"com/example/occupancy/occupancy/cell/internal/BitCells", "word", "(I)J"⟩ : MethodName)) (a := a55) (argsL := [(.int (2 : Int32))]) (rest := []) at_270 (hw _ (List.mem_of_getElem? (i := 58) rfl)) (hw _ (List.mem_of_getElem? (i := 59) rfl)) (hw _ (List.mem_of_getElem? (i := 61) rfl)) rfl (hw _ (List.mem_of_getElem? (i := 60) rfl)) (hw _ (List.mem_of_getElem? (i := 6) rfl)) (hw _ (List.mem_of_getElem? (i := 62) rfl)) (by decide) (rm_o l Z a0 hw a55 (2 : Int32) al 2 nn (own_o (own_o (own_g p8) ka ((1 : Int64) <<< (xa.toInt32 &&& 0x3f).toInt64)) kb ((1 : Int64) <<< (xb.toInt32 &&& 0x3f).toInt64)) h58 E_a55 F_words_a55 V_al rfl (by rw [Int32.lt_iff_toInt_lt, hnn] at hc259; have q : (2 : Int32).toInt = 2 := rfl; omega)) E_a55 rfl pd_10 rfl (hst := rfl) (W := 0) (Nat.le_of_eq rfl) (by decide) (by decide) (c2 := 5) (s2 := 49) rfl rfl (by decide) (by decide) rfl rfl (q := 273) rfl ?_
        intro v70 T70 O70 q70
        obtain rfl := q70
        show Go C _ _ _ _ (T70.setTop (mkF C.m 273 #[.val (.int p0), .val (.int p1), .val (.long p2), .second, .val (.long p4), .second, .val (.long p6), .second, .val (.long p8), .second, .val (.long m), .second, .val (.int wc), .val (.long sp), .second, .val (.long xa), .second, .val (.long xb), .second, .val (.long xc), .second, .val (.int (2 : Int32)), .val (.ref a51), .val (.ref a55), .val (.int (1 : Int32))] [(.long ((own_o (own_o (own_g p8) ka ((1 : Int64) <<< (xa.toInt32 &&& 0x3f).toInt64)) kb ((1 : Int64) <<< (xb.toInt32 &&& 0x3f).toInt64)) 2))]))
        refine Jvm.OwnW.iconst O70 at_273 (r := (2 : Int32)) rfl (q := 274) rfl ?_
        refine Jvm.OwnW.lload O70 at_274 rfl (q := 276) rfl ?_
        refine Jvm.OwnW.lload O70 at_276 rfl (q := 278) rfl ?_
        refine Jvm.OwnW.lload O70 at_278 rfl (q := 280) rfl ?_
        refine Jvm.OwnW.lload O70 at_280 rfl (q := 282) rfl ?_
        refine Jvm.OwnW.iload O70 at_282 rfl (q := 284) rfl ?_
        refine Jvm.OwnW.callS0 O70 (y := (⟨"com/example/occupancy/occupancy/cell/internal/BitCellsSetAllPinLaw", "expected", "(IJJJJI)J"⟩ : MethodName)) (argsL := [(.int (2 : Int32)), (.long p8), (.long xa), (.long xb), (.long xc), (.int (2 : Int32))]) (rest := [(.long ((own_o (own_o (own_g p8) ka ((1 : Int64) <<< (xa.toInt32 &&& 0x3f).toInt64)) kb ((1 : Int64) <<< (xb.toInt32 &&& 0x3f).toInt64)) 2))]) at_284 (hw _ (List.mem_of_getElem? (i := 63) rfl)) (hw _ (List.mem_of_getElem? (i := 64) rfl)) (hw _ (List.mem_of_getElem? (i := 65) rfl)) (hw _ (List.mem_of_getElem? (i := 66) rfl)) (by decide) (rm_e l Z a0 hw (2 : Int32) p8 xa xb xc (2 : Int32) h58) rfl pd_11 rfl (hst := rfl) (W := 2) (Nat.le_of_eq rfl) (by decide) (by decide) (c2 := 5) (s2 := 49) rfl rfl (by decide) (by decide) rfl rfl (q := 287) rfl ?_
        intro v71 T71 O71 q71
        obtain rfl := q71
        show Go C _ _ _ _ (T71.setTop (mkF C.m 287 #[.val (.int p0), .val (.int p1), .val (.long p2), .second, .val (.long p4), .second, .val (.long p6), .second, .val (.long p8), .second, .val (.long m), .second, .val (.int wc), .val (.long sp), .second, .val (.long xa), .second, .val (.long xb), .second, .val (.long xc), .second, .val (.int (2 : Int32)), .val (.ref a51), .val (.ref a55), .val (.int (1 : Int32))] [(.long (fn_e (2 : Int32) p8 xa xb xc (2 : Int32))), (.long ((own_o (own_o (own_g p8) ka ((1 : Int64) <<< (xa.toInt32 &&& 0x3f).toInt64)) kb ((1 : Int64) <<< (xb.toInt32 &&& 0x3f).toInt64)) 2))]))
        refine Jvm.OwnW.lcmp O71 at_287 rfl (q := 288) rfl ?_
        refine Jvm.OwnW.ifNo O71 at_288 (teqL (show ((own_o (own_o (own_g p8) ka ((1 : Int64) <<< (xa.toInt32 &&& 0x3f).toInt64)) kb ((1 : Int64) <<< (xb.toInt32 &&& 0x3f).toInt64)) 2) = (fn_e (2 : Int32) p8 xa xb xc (2 : Int32)) from (by have q := own_e2 p8 xa xb xc xan xbn xcn hxan hxbn hxcn (2 : Int32) 2 rfl; (try simp only [hqa, hqb, hqc] at q); exact q))).2 (q := 291) rfl ?_
        refine Jvm.OwnW.iconst O71 at_291 (r := (1 : Int32)) rfl (q := 292) rfl ?_
        refine Jvm.OwnW.goto O71 at_292 (by decide) (q := 296) rfl ?_
        refine Jvm.OwnW.istore O71 at_296 (L' := #[.val (.int p0), .val (.int p1), .val (.long p2), .second, .val (.long p4), .second, .val (.long p6), .second, .val (.long p8), .second, .val (.long m), .second, .val (.int wc), .val (.long sp), .second, .val (.long xa), .second, .val (.long xb), .second, .val (.long xc), .second, .val (.int (2 : Int32)), .val (.ref a51), .val (.ref a55), .val (.int (1 : Int32))]) rfl (q := 298) rfl ?_
        refine Jvm.OwnW.iload O71 at_298 rfl (q := 300) rfl ?_
        refine Jvm.OwnW.iconst O71 at_300 (r := (3 : Int32)) rfl (q := 301) rfl ?_
        by_cases hc301 : (3 : Int32) < wc
        · refine Jvm.OwnW.icmpNo O71 at_301 (tlt hc301).2.2.2 (q := 304) rfl ?_
          refine Jvm.OwnW.iload O71 at_304 rfl (q := 306) rfl ?_
          refine Jvm.OwnW.ifNo O71 at_306 (feq0 (show ¬ ((1 : Int32) = (0 : Int32)) from (by decide))).1 (q := 309) rfl ?_
          refine Jvm.OwnW.aload O71 at_309 rfl rfl (q := 311) rfl ?_
          refine Jvm.OwnW.iconst O71 at_311 (r := (3 : Int32)) rfl (q := 312) rfl ?_
          refine Jvm.OwnW.callV0 O71 (y := (⟨"com/example/occupancy/occupancy/cell/internal/BitCells", "word", "(I)J"⟩ : MethodName)) (z := (⟨"com/example/occupancy/occupancy/cell/internal/BitCells", "word", "(I)J"⟩ : MethodName)) (a := a55) (argsL := [(.int (3 : Int32))]) (rest := []) at_312 (hw _ (List.mem_of_getElem? (i := 58) rfl)) (hw _ (List.mem_of_getElem? (i := 59) rfl)) (hw _ (List.mem_of_getElem? (i := 61) rfl)) rfl (hw _ (List.mem_of_getElem? (i := 60) rfl)) (hw _ (List.mem_of_getElem? (i := 6) rfl)) (hw _ (List.mem_of_getElem? (i := 62) rfl)) (by decide) (rm_o l Z a0 hw a55 (3 : Int32) al 3 nn (own_o (own_o (own_g p8) ka ((1 : Int64) <<< (xa.toInt32 &&& 0x3f).toInt64)) kb ((1 : Int64) <<< (xb.toInt32 &&& 0x3f).toInt64)) h58 E_a55 F_words_a55 V_al rfl (by rw [Int32.lt_iff_toInt_lt, hnn] at hc301; have q : (3 : Int32).toInt = 3 := rfl; omega)) E_a55 rfl pd_10 rfl (hst := rfl) (W := 0) (Nat.le_of_eq rfl) (by decide) (by decide) (c2 := 5) (s2 := 49) rfl rfl (by decide) (by decide) rfl rfl (q := 315) rfl ?_
          intro v72 T72 O72 q72
          obtain rfl := q72
          show Go C _ _ _ _ (T72.setTop (mkF C.m 315 #[.val (.int p0), .val (.int p1), .val (.long p2), .second, .val (.long p4), .second, .val (.long p6), .second, .val (.long p8), .second, .val (.long m), .second, .val (.int wc), .val (.long sp), .second, .val (.long xa), .second, .val (.long xb), .second, .val (.long xc), .second, .val (.int (2 : Int32)), .val (.ref a51), .val (.ref a55), .val (.int (1 : Int32))] [(.long ((own_o (own_o (own_g p8) ka ((1 : Int64) <<< (xa.toInt32 &&& 0x3f).toInt64)) kb ((1 : Int64) <<< (xb.toInt32 &&& 0x3f).toInt64)) 3))]))
          refine Jvm.OwnW.iconst O72 at_315 (r := (3 : Int32)) rfl (q := 316) rfl ?_
          refine Jvm.OwnW.lload O72 at_316 rfl (q := 318) rfl ?_
          refine Jvm.OwnW.lload O72 at_318 rfl (q := 320) rfl ?_
          refine Jvm.OwnW.lload O72 at_320 rfl (q := 322) rfl ?_
          refine Jvm.OwnW.lload O72 at_322 rfl (q := 324) rfl ?_
          refine Jvm.OwnW.iload O72 at_324 rfl (q := 326) rfl ?_
          refine Jvm.OwnW.callS0 O72 (y := (⟨"com/example/occupancy/occupancy/cell/internal/BitCellsSetAllPinLaw", "expected", "(IJJJJI)J"⟩ : MethodName)) (argsL := [(.int (3 : Int32)), (.long p8), (.long xa), (.long xb), (.long xc), (.int (2 : Int32))]) (rest := [(.long ((own_o (own_o (own_g p8) ka ((1 : Int64) <<< (xa.toInt32 &&& 0x3f).toInt64)) kb ((1 : Int64) <<< (xb.toInt32 &&& 0x3f).toInt64)) 3))]) at_326 (hw _ (List.mem_of_getElem? (i := 63) rfl)) (hw _ (List.mem_of_getElem? (i := 64) rfl)) (hw _ (List.mem_of_getElem? (i := 65) rfl)) (hw _ (List.mem_of_getElem? (i := 66) rfl)) (by decide) (rm_e l Z a0 hw (3 : Int32) p8 xa xb xc (2 : Int32) h58) rfl pd_11 rfl (hst := rfl) (W := 2) (Nat.le_of_eq rfl) (by decide) (by decide) (c2 := 5) (s2 := 49) rfl rfl (by decide) (by decide) rfl rfl (q := 329) rfl ?_
          intro v73 T73 O73 q73
          obtain rfl := q73
          show Go C _ _ _ _ (T73.setTop (mkF C.m 329 #[.val (.int p0), .val (.int p1), .val (.long p2), .second, .val (.long p4), .second, .val (.long p6), .second, .val (.long p8), .second, .val (.long m), .second, .val (.int wc), .val (.long sp), .second, .val (.long xa), .second, .val (.long xb), .second, .val (.long xc), .second, .val (.int (2 : Int32)), .val (.ref a51), .val (.ref a55), .val (.int (1 : Int32))] [(.long (fn_e (3 : Int32) p8 xa xb xc (2 : Int32))), (.long ((own_o (own_o (own_g p8) ka ((1 : Int64) <<< (xa.toInt32 &&& 0x3f).toInt64)) kb ((1 : Int64) <<< (xb.toInt32 &&& 0x3f).toInt64)) 3))]))
          refine Jvm.OwnW.lcmp O73 at_329 rfl (q := 330) rfl ?_
          refine Jvm.OwnW.ifNo O73 at_330 (teqL (show ((own_o (own_o (own_g p8) ka ((1 : Int64) <<< (xa.toInt32 &&& 0x3f).toInt64)) kb ((1 : Int64) <<< (xb.toInt32 &&& 0x3f).toInt64)) 3) = (fn_e (3 : Int32) p8 xa xb xc (2 : Int32)) from (by have q := own_e2 p8 xa xb xc xan xbn xcn hxan hxbn hxcn (3 : Int32) 3 rfl; (try simp only [hqa, hqb, hqc] at q); exact q))).2 (q := 333) rfl ?_
          refine Jvm.OwnW.iconst O73 at_333 (r := (1 : Int32)) rfl (q := 334) rfl ?_
          refine Jvm.OwnW.goto O73 at_334 (by decide) (q := 338) rfl ?_
          refine Jvm.OwnW.istore O73 at_338 (L' := #[.val (.int p0), .val (.int p1), .val (.long p2), .second, .val (.long p4), .second, .val (.long p6), .second, .val (.long p8), .second, .val (.long m), .second, .val (.int wc), .val (.long sp), .second, .val (.long xa), .second, .val (.long xb), .second, .val (.long xc), .second, .val (.int (2 : Int32)), .val (.ref a51), .val (.ref a55), .val (.int (1 : Int32))]) rfl (q := 340) rfl ?_
          refine Jvm.OwnW.iload O73 at_340 rfl (q := 342) rfl ?_
          exact Jvm.OwnW.retB O73 at_342 rfl (Or.inr rfl) (by decide) (by decide) rfl
        · refine Jvm.OwnW.icmpYes O71 at_301 (flt hc301).2.2.2 (by decide) (q := 340) rfl ?_
          refine Jvm.OwnW.iload O71 at_340 rfl (q := 342) rfl ?_
          exact Jvm.OwnW.retB O71 at_342 rfl (Or.inr rfl) (by decide) (by decide) rfl
      · refine Jvm.OwnW.icmpYes O61 at_259 (flt hc259).2.2.2 (by decide) (q := 298) rfl ?_
        refine Jvm.OwnW.iload O61 at_298 rfl (q := 300) rfl ?_
        refine Jvm.OwnW.iconst O61 at_300 (r := (3 : Int32)) rfl (q := 301) rfl ?_
        by_cases hc301 : (3 : Int32) < wc
        · refine Jvm.OwnW.icmpNo O61 at_301 (tlt hc301).2.2.2 (q := 304) rfl ?_
          refine Jvm.OwnW.iload O61 at_304 rfl (q := 306) rfl ?_
          refine Jvm.OwnW.ifNo O61 at_306 (feq0 (show ¬ ((1 : Int32) = (0 : Int32)) from (by decide))).1 (q := 309) rfl ?_
          refine Jvm.OwnW.aload O61 at_309 rfl rfl (q := 311) rfl ?_
          refine Jvm.OwnW.iconst O61 at_311 (r := (3 : Int32)) rfl (q := 312) rfl ?_
          refine Jvm.OwnW.callV0 O61 (y := (⟨"com/example/occupancy/occupancy/cell/internal/BitCells", "word", "(I)J"⟩ : MethodName)) (z := (⟨"com/example/occupancy/occupancy/cell/internal/BitCells", "word", "(I)J"⟩ : MethodName)) (a := a55) (argsL := [(.int (3 : Int32))]) (rest := []) at_312 (hw _ (List.mem_of_getElem? (i := 58) rfl)) (hw _ (List.mem_of_getElem? (i := 59) rfl)) (hw _ (List.mem_of_getElem? (i := 61) rfl)) rfl (hw _ (List.mem_of_getElem? (i := 60) rfl)) (hw _ (List.mem_of_getElem? (i := 6) rfl)) (hw _ (List.mem_of_getElem? (i := 62) rfl)) (by decide) (rm_o l Z a0 hw a55 (3 : Int32) al 3 nn (own_o (own_o (own_g p8) ka ((1 : Int64) <<< (xa.toInt32 &&& 0x3f).toInt64)) kb ((1 : Int64) <<< (xb.toInt32 &&& 0x3f).toInt64)) h58 E_a55 F_words_a55 V_al rfl (by rw [Int32.lt_iff_toInt_lt, hnn] at hc301; have q : (3 : Int32).toInt = 3 := rfl; omega)) E_a55 rfl pd_10 rfl (hst := rfl) (W := 0) (Nat.le_of_eq rfl) (by decide) (by decide) (c2 := 5) (s2 := 49) rfl rfl (by decide) (by decide) rfl rfl (q := 315) rfl ?_
          intro v74 T74 O74 q74
          obtain rfl := q74
          show Go C _ _ _ _ (T74.setTop (mkF C.m 315 #[.val (.int p0), .val (.int p1), .val (.long p2), .second, .val (.long p4), .second, .val (.long p6), .second, .val (.long p8), .second, .val (.long m), .second, .val (.int wc), .val (.long sp), .second, .val (.long xa), .second, .val (.long xb), .second, .val (.long xc), .second, .val (.int (2 : Int32)), .val (.ref a51), .val (.ref a55), .val (.int (1 : Int32))] [(.long ((own_o (own_o (own_g p8) ka ((1 : Int64) <<< (xa.toInt32 &&& 0x3f).toInt64)) kb ((1 : Int64) <<< (xb.toInt32 &&& 0x3f).toInt64)) 3))]))
          refine Jvm.OwnW.iconst O74 at_315 (r := (3 : Int32)) rfl (q := 316) rfl ?_
          refine Jvm.OwnW.lload O74 at_316 rfl (q := 318) rfl ?_
          refine Jvm.OwnW.lload O74 at_318 rfl (q := 320) rfl ?_
          refine Jvm.OwnW.lload O74 at_320 rfl (q := 322) rfl ?_
          refine Jvm.OwnW.lload O74 at_322 rfl (q := 324) rfl ?_
          refine Jvm.OwnW.iload O74 at_324 rfl (q := 326) rfl ?_
          refine Jvm.OwnW.callS0 O74 (y := (⟨"com/example/occupancy/occupancy/cell/internal/BitCellsSetAllPinLaw", "expected", "(IJJJJI)J"⟩ : MethodName)) (argsL := [(.int (3 : Int32)), (.long p8), (.long xa), (.long xb), (.long xc), (.int (2 : Int32))]) (rest := [(.long ((own_o (own_o (own_g p8) ka ((1 : Int64) <<< (xa.toInt32 &&& 0x3f).toInt64)) kb ((1 : Int64) <<< (xb.toInt32 &&& 0x3f).toInt64)) 3))]) at_326 (hw _ (List.mem_of_getElem? (i := 63) rfl)) (hw _ (List.mem_of_getElem? (i := 64) rfl)) (hw _ (List.mem_of_getElem? (i := 65) rfl)) (hw _ (List.mem_of_getElem? (i := 66) rfl)) (by decide) (rm_e l Z a0 hw (3 : Int32) p8 xa xb xc (2 : Int32) h58) rfl pd_11 rfl (hst := rfl) (W := 2) (Nat.le_of_eq rfl) (by decide) (by decide) (c2 := 5) (s2 := 49) rfl rfl (by decide) (by decide) rfl rfl (q := 329) rfl ?_
          intro v75 T75 O75 q75
          obtain rfl := q75
          show Go C _ _ _ _ (T75.setTop (mkF C.m 329 #[.val (.int p0), .val (.int p1), .val (.long p2), .second, .val (.long p4), .second, .val (.long p6), .second, .val (.long p8), .second, .val (.long m), .second, .val (.int wc), .val (.long sp), .second, .val (.long xa), .second, .val (.long xb), .second, .val (.long xc), .second, .val (.int (2 : Int32)), .val (.ref a51), .val (.ref a55), .val (.int (1 : Int32))] [(.long (fn_e (3 : Int32) p8 xa xb xc (2 : Int32))), (.long ((own_o (own_o (own_g p8) ka ((1 : Int64) <<< (xa.toInt32 &&& 0x3f).toInt64)) kb ((1 : Int64) <<< (xb.toInt32 &&& 0x3f).toInt64)) 3))]))
          refine Jvm.OwnW.lcmp O75 at_329 rfl (q := 330) rfl ?_
          refine Jvm.OwnW.ifNo O75 at_330 (teqL (show ((own_o (own_o (own_g p8) ka ((1 : Int64) <<< (xa.toInt32 &&& 0x3f).toInt64)) kb ((1 : Int64) <<< (xb.toInt32 &&& 0x3f).toInt64)) 3) = (fn_e (3 : Int32) p8 xa xb xc (2 : Int32)) from (by have q := own_e2 p8 xa xb xc xan xbn xcn hxan hxbn hxcn (3 : Int32) 3 rfl; (try simp only [hqa, hqb, hqc] at q); exact q))).2 (q := 333) rfl ?_
          refine Jvm.OwnW.iconst O75 at_333 (r := (1 : Int32)) rfl (q := 334) rfl ?_
          refine Jvm.OwnW.goto O75 at_334 (by decide) (q := 338) rfl ?_
          refine Jvm.OwnW.istore O75 at_338 (L' := #[.val (.int p0), .val (.int p1), .val (.long p2), .second, .val (.long p4), .second, .val (.long p6), .second, .val (.long p8), .second, .val (.long m), .second, .val (.int wc), .val (.long sp), .second, .val (.long xa), .second, .val (.long xb), .second, .val (.long xc), .second, .val (.int (2 : Int32)), .val (.ref a51), .val (.ref a55), .val (.int (1 : Int32))]) rfl (q := 340) rfl ?_
          refine Jvm.OwnW.iload O75 at_340 rfl (q := 342) rfl ?_
          exact Jvm.OwnW.retB O75 at_342 rfl (Or.inr rfl) (by decide) (by decide) rfl
        · refine Jvm.OwnW.icmpYes O61 at_301 (flt hc301).2.2.2 (by decide) (q := 340) rfl ?_
          refine Jvm.OwnW.iload O61 at_340 rfl (q := 342) rfl ?_
          exact Jvm.OwnW.retB O61 at_342 rfl (Or.inr rfl) (by decide) (by decide) rfl
  · skip
    obtain rfl : ct = (3 : Int32) := eq32 hcn
    show Go C _ _ _ _ (T.setTop (mkF C.m 67 #[.val (.int p0), .val (.int p1), .val (.long p2), .second, .val (.long p4), .second, .val (.long p6), .second, .val (.long p8), .second, .val (.long m), .second, .val (.int wc), .val (.long sp), .second, .val (.long xa), .second, .val (.long xb), .second, .val (.long xc), .second, .unset, .unset, .unset, .unset] [(.int (3 : Int32))]))
    refine Jvm.OwnW.istore O at_67 (L' := #[.val (.int p0), .val (.int p1), .val (.long p2), .second, .val (.long p4), .second, .val (.long p6), .second, .val (.long p8), .second, .val (.long m), .second, .val (.int wc), .val (.long sp), .second, .val (.long xa), .second, .val (.long xb), .second, .val (.long xc), .second, .val (.int (3 : Int32)), .unset, .unset, .unset]) rfl (q := 69) rfl ?_
    refine Jvm.OwnW.iconst O at_69 (r := (3 : Int32)) rfl (q := 70) rfl ?_
    refine Jvm.OwnW.newA' O at_70 (ty := .long) rfl (hw _ (List.mem_of_getElem? (i := 3) rfl)) (N := 3) rfl (cap := 3) (by decide) (by decide) (c2 := 1) (s2 := 3) rfl rfl (by decide) (by decide) (q := 72) rfl ?_
    intro a76 T76 h76 g76 N76 O76 X76 V_a76
    have V_a76 : Ar Z h76 a76 .long 3 (lf [(.long (0 : Int64)), (.long (0 : Int64)), (.long (0 : Int64))]) := V_a76.congr (lf_rep 3 _)
    refine Jvm.OwnW.dup O76 at_72 rfl (q := 73) rfl ?_
    refine Jvm.OwnW.iconst O76 at_73 (r := (0 : Int32)) rfl (q := 74) rfl ?_
    refine Jvm.OwnW.lload O76 at_74 rfl (q := 76) rfl ?_
    refine Jvm.OwnW.lasA O76 at_76 V_a76 (i := 0) rfl (by decide) (Or.inr N76) (q := 77) rfl ?_
    intro T77 h77 O77 W77
    have V_a76 : Ar Z h77 a76 .long 3 (lf [(.long xa), (.long (0 : Int64)), (.long (0 : Int64))]) := V_a76.setL W77 (by decide) (Nat.le_of_ble_eq_true rfl)
    refine Jvm.OwnW.dup O77 at_77 rfl (q := 78) rfl ?_
    refine Jvm.OwnW.iconst O77 at_78 (r := (1 : Int32)) rfl (q := 79) rfl ?_
    refine Jvm.OwnW.lload O77 at_79 rfl (q := 81) rfl ?_
    refine Jvm.OwnW.lasA O77 at_81 V_a76 (i := 1) rfl (by decide) (Or.inr N76) (q := 82) rfl ?_
    intro T78 h78 O78 W78
    have V_a76 : Ar Z h78 a76 .long 3 (lf [(.long xa), (.long xb), (.long (0 : Int64))]) := V_a76.setL W78 (by decide) (Nat.le_of_ble_eq_true rfl)
    refine Jvm.OwnW.dup O78 at_82 rfl (q := 83) rfl ?_
    refine Jvm.OwnW.iconst O78 at_83 (r := (2 : Int32)) rfl (q := 84) rfl ?_
    refine Jvm.OwnW.lload O78 at_84 rfl (q := 86) rfl ?_
    refine Jvm.OwnW.lasA O78 at_86 V_a76 (i := 2) rfl (by decide) (Or.inr N76) (q := 87) rfl ?_
    intro T79 h79 O79 W79
    have V_a76 : Ar Z h79 a76 .long 3 (lf [(.long xa), (.long xb), (.long xc)]) := V_a76.setL W79 (by decide) (Nat.le_of_ble_eq_true rfl)
    refine Jvm.OwnW.astore O79 at_87 rfl (L' := #[.val (.int p0), .val (.int p1), .val (.long p2), .second, .val (.long p4), .second, .val (.long p6), .second, .val (.long p8), .second, .val (.long m), .second, .val (.int wc), .val (.long sp), .second, .val (.long xa), .second, .val (.long xb), .second, .val (.long xc), .second, .val (.int (3 : Int32)), .val (.ref a76), .unset, .unset]) rfl (q := 89) rfl ?_
    refine Jvm.OwnW.newO O79 at_89 (hw _ (List.mem_of_getElem? (i := 4) rfl)) (hw _ (List.mem_of_getElem? (i := 5) rfl)) (hw _ (List.mem_of_getElem? (i := 6) rfl)) (c2 := 2) (s2 := 5) rfl rfl (by decide) (by decide) (q := 92) rfl ?_
    intro a80 T80 h80 g80 N80 O80 X80 E_a80 D80
    have ne_a76_a80 : a76 ≠ a80 := Nat.ne_of_lt (Nat.lt_of_lt_of_le V_a76.lt (Nat.le_of_eq g80.symm))
    have V_a76 := V_a76.ext X80
    have F_cellCount_a80 : Fld Z h80 a80 "com/example/occupancy/occupancy/cell/internal/BitCells" "cellCount" "J" (.long (0 : Int64)) := D80 (Or.inr (hw _ (List.mem_of_getElem? (i := 40) rfl))) (ty := .long) (by decide)
    have F_words_a80 : Fld Z h80 a80 "com/example/occupancy/occupancy/cell/internal/BitCells" "words" "[J" .null := D80 (Or.inr (hw _ (List.mem_of_getElem? (i := 42) rfl))) (ty := (.array .long)) (by decide)
    refine Jvm.OwnW.dup O80 at_92 rfl (q := 93) rfl ?_
    refine Jvm.OwnW.lload O80 at_93 rfl (q := 95) rfl ?_
    have lt_a76 := V_a76.lt
    have lt_a80 := E_a80.lt
    refine Jvm.OwnW.callI O80 (y := (⟨"com/example/occupancy/occupancy/cell/internal/BitCells", "<init>", "(J)V"⟩ : MethodName)) (a := a80) (argsL := [(.long m)]) (rest := [(.ref a80)]) at_95 rfl (hw _ (List.mem_of_getElem? (i := 7) rfl)) (hw _ (List.mem_of_getElem? (i := 8) rfl)) (hw _ (List.mem_of_getElem? (i := 6) rfl)) (hw _ (List.mem_of_getElem? (i := 9) rfl)) (by decide) (rm_i l Z a0 hw a80 m nn h80 E_a80 F_cellCount_a80 F_words_a80 hlo hhi hnw hn4) rfl pd_6 rfl (hst := rfl) (W := 1) (Nat.le_of_eq rfl) (by decide) (by decide) (c2 := 5) (s2 := 49) rfl rfl (by decide) (by decide) (allS (Or.inr N80) all0) (q := 98) rfl ?_
    intro v81 T81 h81 O81 K81 q81
    obtain ⟨rfl, al, m_al, F_words_a80, V_al⟩ := q81
    have V_a76 := V_a76.keep K81 (ninS ne_a76_a80 nin0)
    have E_a80 := E_a80.keep K81
    have N_al : C.s.heap.size ≤ al := Nat.le_trans O80.size m_al
    have ne_a76_al : a76 ≠ al := Nat.ne_of_lt (Nat.lt_of_lt_of_le lt_a76 m_al)
    have ne_a80_al : a80 ≠ al := Nat.ne_of_lt (Nat.lt_of_lt_of_le lt_a80 m_al)
    show Go C _ _ _ _ (T81.setTop (mkF C.m 98 #[.val (.int p0), .val (.int p1), .val (.long p2), .second, .val (.long p4), .second, .val (.long p6), .second, .val (.long p8), .second, .val (.long m), .second, .val (.int wc), .val (.long sp), .second, .val (.long xa), .second, .val (.long xb), .second, .val (.long xc), .second, .val (.int (3 : Int32)), .val (.ref a76), .unset, .unset] [(.ref a80)]))
    refine Jvm.OwnW.astore O81 at_98 rfl (L' := #[.val (.int p0), .val (.int p1), .val (.long p2), .second, .val (.long p4), .second, .val (.long p6), .second, .val (.long p8), .second, .val (.long m), .second, .val (.int wc), .val (.long sp), .second, .val (.long xa), .second, .val (.long xb), .second, .val (.long xc), .second, .val (.int (3 : Int32)), .val (.ref a76), .val (.ref a80), .unset]) rfl (q := 100) rfl ?_
    refine Jvm.OwnW.aload O81 at_100 rfl rfl (q := 102) rfl ?_
    refine Jvm.OwnW.iconst O81 at_102 (r := (0 : Int32)) rfl (q := 103) rfl ?_
    refine Jvm.OwnW.lload O81 at_103 rfl (q := 105) rfl ?_
    refine Jvm.OwnW.callV O81 (y := (⟨"com/example/occupancy/occupancy/cell/internal/BitCells", "setWord", "(IJ)V"⟩ : MethodName)) (z := (⟨"com/example/occupancy/occupancy/cell/internal/BitCells", "setWord", "(IJ)V"⟩ : MethodName)) (a := a80) (argsL := [(.int (0 : Int32)), (.long p8)]) (rest := []) at_105 (hw _ (List.mem_of_getElem? (i := 43) rfl)) (hw _ (List.mem_of_getElem? (i := 44) rfl)) (hw _ (List.mem_of_getElem? (i := 46) rfl)) rfl (hw _ (List.mem_of_getElem? (i := 45) rfl)) (hw _ (List.mem_of_getElem? (i := 6) rfl)) (hw _ (List.mem_of_getElem? (i := 47) rfl)) (by decide) (rm_s l Z a0 hw a80 p8 al nn h81 E_a80 F_words_a80 ne_a80_al V_al hn1) E_a80 rfl pd_7 rfl (hst := rfl) (W := 0) (Nat.le_of_eq rfl) (by decide) (by decide) (c2 := 5) (s2 := 49) rfl rfl (by decide) (by decide) (allS (Or.inr N_al) all0) (q := 108) rfl ?_
    intro v82 T82 h82 O82 K82 q82
    obtain ⟨rfl, V_al⟩ := q82
    have V_a76 := V_a76.keep K82 (ninS ne_a76_al nin0)
    have E_a80 := E_a80.keep K82
    have F_words_a80 := F_words_a80.keep K82 (ninS ne_a80_al nin0)
    show Go C _ _ _ _ (T82.setTop (mkF C.m 108 #[.val (.int p0), .val (.int p1), .val (.long p2), .second, .val (.long p4), .second, .val (.long p6), .second, .val (.long p8), .second, .val (.long m), .second, .val (.int wc), .val (.long sp), .second, .val (.long xa), .second, .val (.long xb), .second, .val (.long xc), .second, .val (.int (3 : Int32)), .val (.ref a76), .val (.ref a80), .unset] []))
    refine Jvm.OwnW.aload O82 at_108 rfl rfl (q := 110) rfl ?_
    refine Jvm.OwnW.aload O82 at_110 rfl rfl (q := 112) rfl ?_
    refine Jvm.OwnW.iload O82 at_112 rfl (q := 114) rfl ?_
    refine Jvm.OwnW.callV O82 (y := (⟨"com/example/occupancy/occupancy/cell/internal/BitCells", "setAll", "([JI)V"⟩ : MethodName)) (z := (⟨"com/example/occupancy/occupancy/cell/internal/BitCells", "setAll", "([JI)V"⟩ : MethodName)) (a := a80) (argsL := [(.ref a76), (.int (3 : Int32))]) (rest := []) at_114 (hw _ (List.mem_of_getElem? (i := 48) rfl)) (hw _ (List.mem_of_getElem? (i := 49) rfl)) (hw _ (List.mem_of_getElem? (i := 51) rfl)) rfl (hw _ (List.mem_of_getElem? (i := 50) rfl)) (hw _ (List.mem_of_getElem? (i := 6) rfl)) (hw _ (List.mem_of_getElem? (i := 52) rfl)) (by decide) (rm_a3 l Z a0 hw a80 a76 al xa xb xc ka kb kc nn (own_g p8) h82 E_a80 F_words_a80 ne_a80_al V_al V_a76 ne_a76_al hka hna hkb hnb hkc hnc) E_a80 rfl pd_8 rfl (hst := rfl) (W := 0) (Nat.le_of_eq rfl) (by decide) (by decide) (c2 := 5) (s2 := 49) rfl rfl (by decide) (by decide) (allS (Or.inr N_al) all0) (q := 117) rfl ?_
    intro v83 T83 h83 O83 K83 q83
    obtain ⟨rfl, V_al⟩ := q83
    have V_a76 := V_a76.keep K83 (ninS ne_a76_al nin0)
    have E_a80 := E_a80.keep K83
    have F_words_a80 := F_words_a80.keep K83 (ninS ne_a80_al nin0)
    show Go C _ _ _ _ (T83.setTop (mkF C.m 117 #[.val (.int p0), .val (.int p1), .val (.long p2), .second, .val (.long p4), .second, .val (.long p6), .second, .val (.long p8), .second, .val (.long m), .second, .val (.int wc), .val (.long sp), .second, .val (.long xa), .second, .val (.long xb), .second, .val (.long xc), .second, .val (.int (3 : Int32)), .val (.ref a76), .val (.ref a80), .unset] []))
    refine Jvm.OwnW.aload O83 at_117 rfl rfl (q := 119) rfl ?_
    refine Jvm.OwnW.iconst O83 at_119 (r := (0 : Int32)) rfl (q := 120) rfl ?_
    refine Jvm.OwnW.lalA O83 at_120 V_a76 (i := 0) rfl (by decide) (v := (.long xa)) rfl (q := 121) rfl ?_
    refine Jvm.OwnW.lload O83 at_121 rfl (q := 123) rfl ?_
    refine Jvm.OwnW.lcmp O83 at_123 rfl (q := 124) rfl ?_
    refine Jvm.OwnW.ifNo O83 at_124 (teqL (show xa = xa from rfl)).2 (q := 127) rfl ?_
    refine Jvm.OwnW.aload O83 at_127 rfl rfl (q := 129) rfl ?_
    refine Jvm.OwnW.iconst O83 at_129 (r := (1 : Int32)) rfl (q := 130) rfl ?_
    refine Jvm.OwnW.lalA O83 at_130 V_a76 (i := 1) rfl (by decide) (v := (.long xb)) rfl (q := 131) rfl ?_
    refine Jvm.OwnW.lload O83 at_131 rfl (q := 133) rfl ?_
    refine Jvm.OwnW.lcmp O83 at_133 rfl (q := 134) rfl ?_
    refine Jvm.OwnW.ifNo O83 at_134 (teqL (show xb = xb from rfl)).2 (q := 137) rfl ?_
    refine Jvm.OwnW.aload O83 at_137 rfl rfl (q := 139) rfl ?_
    refine Jvm.OwnW.iconst O83 at_139 (r := (2 : Int32)) rfl (q := 140) rfl ?_
    refine Jvm.OwnW.lalA O83 at_140 V_a76 (i := 2) rfl (by decide) (v := (.long xc)) rfl (q := 141) rfl ?_
    refine Jvm.OwnW.lload O83 at_141 rfl (q := 143) rfl ?_
    refine Jvm.OwnW.lcmp O83 at_143 rfl (q := 144) rfl ?_
    refine Jvm.OwnW.ifNo O83 at_144 (teqL (show xc = xc from rfl)).2 (q := 147) rfl ?_
    refine Jvm.OwnW.iconst O83 at_147 (r := (1 : Int32)) rfl (q := 148) rfl ?_
    refine Jvm.OwnW.goto O83 at_148 (by decide) (q := 152) rfl ?_
    refine Jvm.OwnW.istore O83 at_152 (L' := #[.val (.int p0), .val (.int p1), .val (.long p2), .second, .val (.long p4), .second, .val (.long p6), .second, .val (.long p8), .second, .val (.long m), .second, .val (.int wc), .val (.long sp), .second, .val (.long xa), .second, .val (.long xb), .second, .val (.long xc), .second, .val (.int (3 : Int32)), .val (.ref a76), .val (.ref a80), .val (.int (1 : Int32))]) rfl (q := 154) rfl ?_
    refine Jvm.OwnW.iload O83 at_154 rfl (q := 156) rfl ?_
    refine Jvm.OwnW.ifNo O83 at_156 (feq0 (show ¬ ((1 : Int32) = (0 : Int32)) from (by decide))).1 (q := 159) rfl ?_
    refine Jvm.OwnW.aload O83 at_159 rfl rfl (q := 161) rfl ?_
    refine Jvm.OwnW.callV0 O83 (y := (⟨"com/example/occupancy/occupancy/cell/internal/BitCells", "wordCount", "()J"⟩ : MethodName)) (z := (⟨"com/example/occupancy/occupancy/cell/internal/BitCells", "wordCount", "()J"⟩ : MethodName)) (a := a80) (argsL := []) (rest := []) at_161 (hw _ (List.mem_of_getElem? (i := 53) rfl)) (hw _ (List.mem_of_getElem? (i := 54) rfl)) (hw _ (List.mem_of_getElem? (i := 56) rfl)) rfl (hw _ (List.mem_of_getElem? (i := 55) rfl)) (hw _ (List.mem_of_getElem? (i := 6) rfl)) (hw _ (List.mem_of_getElem? (i := 57) rfl)) (by decide) (rm_n l Z a0 hw a80 al wc nn _ h83 E_a80 F_words_a80 V_al hnn) E_a80 rfl pd_9 rfl (hst := rfl) (W := 0) (Nat.le_of_eq rfl) (by decide) (by decide) (c2 := 5) (s2 := 49) rfl rfl (by decide) (by decide) rfl rfl (q := 164) rfl ?_
    intro v84 T84 O84 q84
    obtain rfl := q84
    show Go C _ _ _ _ (T84.setTop (mkF C.m 164 #[.val (.int p0), .val (.int p1), .val (.long p2), .second, .val (.long p4), .second, .val (.long p6), .second, .val (.long p8), .second, .val (.long m), .second, .val (.int wc), .val (.long sp), .second, .val (.long xa), .second, .val (.long xb), .second, .val (.long xc), .second, .val (.int (3 : Int32)), .val (.ref a76), .val (.ref a80), .val (.int (1 : Int32))] [(.long wc.toInt64)]))
    refine Jvm.OwnW.iload O84 at_164 rfl (q := 166) rfl ?_
    refine Jvm.OwnW.i2l O84 at_166 rfl (q := 167) rfl ?_
    refine Jvm.OwnW.lcmp O84 at_167 rfl (q := 168) rfl ?_
    refine Jvm.OwnW.ifNo O84 at_168 (teqL (show wc.toInt64 = wc.toInt64 from rfl)).2 (q := 171) rfl ?_
    refine Jvm.OwnW.iconst O84 at_171 (r := (1 : Int32)) rfl (q := 172) rfl ?_
    refine Jvm.OwnW.goto O84 at_172 (by decide) (q := 176) rfl ?_
    refine Jvm.OwnW.istore O84 at_176 (L' := #[.val (.int p0), .val (.int p1), .val (.long p2), .second, .val (.long p4), .second, .val (.long p6), .second, .val (.long p8), .second, .val (.long m), .second, .val (.int wc), .val (.long sp), .second, .val (.long xa), .second, .val (.long xb), .second, .val (.long xc), .second, .val (.int (3 : Int32)), .val (.ref a76), .val (.ref a80), .val (.int (1 : Int32))]) rfl (q := 178) rfl ?_
    refine Jvm.OwnW.iload O84 at_178 rfl (q := 180) rfl ?_
    refine Jvm.OwnW.ifNo O84 at_180 (feq0 (show ¬ ((1 : Int32) = (0 : Int32)) from (by decide))).1 (q := 183) rfl ?_
    refine Jvm.OwnW.aload O84 at_183 rfl rfl (q := 185) rfl ?_
    refine Jvm.OwnW.iconst O84 at_185 (r := (0 : Int32)) rfl (q := 186) rfl ?_
    refine Jvm.OwnW.callV0 O84 (y := (⟨"com/example/occupancy/occupancy/cell/internal/BitCells", "word", "(I)J"⟩ : MethodName)) (z := (⟨"com/example/occupancy/occupancy/cell/internal/BitCells", "word", "(I)J"⟩ : MethodName)) (a := a80) (argsL := [(.int (0 : Int32))]) (rest := []) at_186 (hw _ (List.mem_of_getElem? (i := 58) rfl)) (hw _ (List.mem_of_getElem? (i := 59) rfl)) (hw _ (List.mem_of_getElem? (i := 61) rfl)) rfl (hw _ (List.mem_of_getElem? (i := 60) rfl)) (hw _ (List.mem_of_getElem? (i := 6) rfl)) (hw _ (List.mem_of_getElem? (i := 62) rfl)) (by decide) (rm_o l Z a0 hw a80 (0 : Int32) al 0 nn (own_o (own_o (own_o (own_g p8) ka ((1 : Int64) <<< (xa.toInt32 &&& 0x3f).toInt64)) kb ((1 : Int64) <<< (xb.toInt32 &&& 0x3f).toInt64)) kc ((1 : Int64) <<< (xc.toInt32 &&& 0x3f).toInt64)) h83 E_a80 F_words_a80 V_al rfl hn1) E_a80 rfl pd_10 rfl (hst := rfl) (W := 0) (Nat.le_of_eq rfl) (by decide) (by decide) (c2 := 5) (s2 := 49) rfl rfl (by decide) (by decide) rfl rfl (q := 189) rfl ?_
    intro v85 T85 O85 q85
    obtain rfl := q85
    show Go C _ _ _ _ (T85.setTop (mkF C.m 189 #[.val (.int p0), .val (.int p1), .val (.long p2), .second, .val (.long p4), .second, .val (.long p6), .second, .val (.long p8), .second, .val (.long m), .second, .val (.int wc), .val (.long sp), .second, .val (.long xa), .second, .val (.long xb), .second, .val (.long xc), .second, .val (.int (3 : Int32)), .val (.ref a76), .val (.ref a80), .val (.int (1 : Int32))] [(.long ((own_o (own_o (own_o (own_g p8) ka ((1 : Int64) <<< (xa.toInt32 &&& 0x3f).toInt64)) kb ((1 : Int64) <<< (xb.toInt32 &&& 0x3f).toInt64)) kc ((1 : Int64) <<< (xc.toInt32 &&& 0x3f).toInt64)) 0))]))
    refine Jvm.OwnW.iconst O85 at_189 (r := (0 : Int32)) rfl (q := 190) rfl ?_
    refine Jvm.OwnW.lload O85 at_190 rfl (q := 192) rfl ?_
    refine Jvm.OwnW.lload O85 at_192 rfl (q := 194) rfl ?_
    refine Jvm.OwnW.lload O85 at_194 rfl (q := 196) rfl ?_
    refine Jvm.OwnW.lload O85 at_196 rfl (q := 198) rfl ?_
    refine Jvm.OwnW.iload O85 at_198 rfl (q := 200) rfl ?_
    refine Jvm.OwnW.callS0 O85 (y := (⟨"com/example/occupancy/occupancy/cell/internal/BitCellsSetAllPinLaw", "expected", "(IJJJJI)J"⟩ : MethodName)) (argsL := [(.int (0 : Int32)), (.long p8), (.long xa), (.long xb), (.long xc), (.int (3 : Int32))]) (rest := [(.long ((own_o (own_o (own_o (own_g p8) ka ((1 : Int64) <<< (xa.toInt32 &&& 0x3f).toInt64)) kb ((1 : Int64) <<< (xb.toInt32 &&& 0x3f).toInt64)) kc ((1 : Int64) <<< (xc.toInt32 &&& 0x3f).toInt64)) 0))]) at_200 (hw _ (List.mem_of_getElem? (i := 63) rfl)) (hw _ (List.mem_of_getElem? (i := 64) rfl)) (hw _ (List.mem_of_getElem? (i := 65) rfl)) (hw _ (List.mem_of_getElem? (i := 66) rfl)) (by decide) (rm_e l Z a0 hw (0 : Int32) p8 xa xb xc (3 : Int32) h83) rfl pd_11 rfl (hst := rfl) (W := 2) (Nat.le_of_eq rfl) (by decide) (by decide) (c2 := 5) (s2 := 49) rfl rfl (by decide) (by decide) rfl rfl (q := 203) rfl ?_
    intro v86 T86 O86 q86
    obtain rfl := q86
    show Go C _ _ _ _ (T86.setTop (mkF C.m 203 #[.val (.int p0), .val (.int p1), .val (.long p2), .second, .val (.long p4), .second, .val (.long p6), .second, .val (.long p8), .second, .val (.long m), .second, .val (.int wc), .val (.long sp), .second, .val (.long xa), .second, .val (.long xb), .second, .val (.long xc), .second, .val (.int (3 : Int32)), .val (.ref a76), .val (.ref a80), .val (.int (1 : Int32))] [(.long (fn_e (0 : Int32) p8 xa xb xc (3 : Int32))), (.long ((own_o (own_o (own_o (own_g p8) ka ((1 : Int64) <<< (xa.toInt32 &&& 0x3f).toInt64)) kb ((1 : Int64) <<< (xb.toInt32 &&& 0x3f).toInt64)) kc ((1 : Int64) <<< (xc.toInt32 &&& 0x3f).toInt64)) 0))]))
    refine Jvm.OwnW.lcmp O86 at_203 rfl (q := 204) rfl ?_
    refine Jvm.OwnW.ifNo O86 at_204 (teqL (show ((own_o (own_o (own_o (own_g p8) ka ((1 : Int64) <<< (xa.toInt32 &&& 0x3f).toInt64)) kb ((1 : Int64) <<< (xb.toInt32 &&& 0x3f).toInt64)) kc ((1 : Int64) <<< (xc.toInt32 &&& 0x3f).toInt64)) 0) = (fn_e (0 : Int32) p8 xa xb xc (3 : Int32)) from (by have q := own_e3 p8 xa xb xc xan xbn xcn hxan hxbn hxcn (0 : Int32) 0 rfl; (try simp only [hqa, hqb, hqc] at q); exact q))).2 (q := 207) rfl ?_
    refine Jvm.OwnW.iconst O86 at_207 (r := (1 : Int32)) rfl (q := 208) rfl ?_
    refine Jvm.OwnW.goto O86 at_208 (by decide) (q := 212) rfl ?_
    refine Jvm.OwnW.istore O86 at_212 (L' := #[.val (.int p0), .val (.int p1), .val (.long p2), .second, .val (.long p4), .second, .val (.long p6), .second, .val (.long p8), .second, .val (.long m), .second, .val (.int wc), .val (.long sp), .second, .val (.long xa), .second, .val (.long xb), .second, .val (.long xc), .second, .val (.int (3 : Int32)), .val (.ref a76), .val (.ref a80), .val (.int (1 : Int32))]) rfl (q := 214) rfl ?_
    refine Jvm.OwnW.iload O86 at_214 rfl (q := 216) rfl ?_
    refine Jvm.OwnW.iconst O86 at_216 (r := (1 : Int32)) rfl (q := 217) rfl ?_
    by_cases hc217 : (1 : Int32) < wc
    · refine Jvm.OwnW.icmpNo O86 at_217 (tlt hc217).2.2.2 (q := 220) rfl ?_
      refine Jvm.OwnW.iload O86 at_220 rfl (q := 222) rfl ?_
      refine Jvm.OwnW.ifNo O86 at_222 (feq0 (show ¬ ((1 : Int32) = (0 : Int32)) from (by decide))).1 (q := 225) rfl ?_
      refine Jvm.OwnW.aload O86 at_225 rfl rfl (q := 227) rfl ?_
      refine Jvm.OwnW.iconst O86 at_227 (r := (1 : Int32)) rfl (q := 228) rfl ?_
      refine Jvm.OwnW.callV0 O86 (y := (⟨"com/example/occupancy/occupancy/cell/internal/BitCells", "word", "(I)J"⟩ : MethodName)) (z := (⟨"com/example/occupancy/occupancy/cell/internal/BitCells", "word", "(I)J"⟩ : MethodName)) (a := a80) (argsL := [(.int (1 : Int32))]) (rest := []) at_228 (hw _ (List.mem_of_getElem? (i := 58) rfl)) (hw _ (List.mem_of_getElem? (i := 59) rfl)) (hw _ (List.mem_of_getElem? (i := 61) rfl)) rfl (hw _ (List.mem_of_getElem? (i := 60) rfl)) (hw _ (List.mem_of_getElem? (i := 6) rfl)) (hw _ (List.mem_of_getElem? (i := 62) rfl)) (by decide) (rm_o l Z a0 hw a80 (1 : Int32) al 1 nn (own_o (own_o (own_o (own_g p8) ka ((1 : Int64) <<< (xa.toInt32 &&& 0x3f).toInt64)) kb ((1 : Int64) <<< (xb.toInt32 &&& 0x3f).toInt64)) kc ((1 : Int64) <<< (xc.toInt32 &&& 0x3f).toInt64)) h83 E_a80 F_words_a80 V_al rfl (by rw [Int32.lt_iff_toInt_lt, hnn] at hc217; have q : (1 : Int32).toInt = 1 := rfl; omega)) E_a80 rfl pd_10 rfl (hst := rfl) (W := 0) (Nat.le_of_eq rfl) (by decide) (by decide) (c2 := 5) (s2 := 49) rfl rfl (by decide) (by decide) rfl rfl (q := 231) rfl ?_
      intro v87 T87 O87 q87
      obtain rfl := q87
      show Go C _ _ _ _ (T87.setTop (mkF C.m 231 #[.val (.int p0), .val (.int p1), .val (.long p2), .second, .val (.long p4), .second, .val (.long p6), .second, .val (.long p8), .second, .val (.long m), .second, .val (.int wc), .val (.long sp), .second, .val (.long xa), .second, .val (.long xb), .second, .val (.long xc), .second, .val (.int (3 : Int32)), .val (.ref a76), .val (.ref a80), .val (.int (1 : Int32))] [(.long ((own_o (own_o (own_o (own_g p8) ka ((1 : Int64) <<< (xa.toInt32 &&& 0x3f).toInt64)) kb ((1 : Int64) <<< (xb.toInt32 &&& 0x3f).toInt64)) kc ((1 : Int64) <<< (xc.toInt32 &&& 0x3f).toInt64)) 1))]))
      refine Jvm.OwnW.iconst O87 at_231 (r := (1 : Int32)) rfl (q := 232) rfl ?_
      refine Jvm.OwnW.lload O87 at_232 rfl (q := 234) rfl ?_
      refine Jvm.OwnW.lload O87 at_234 rfl (q := 236) rfl ?_
      refine Jvm.OwnW.lload O87 at_236 rfl (q := 238) rfl ?_
      refine Jvm.OwnW.lload O87 at_238 rfl (q := 240) rfl ?_
      refine Jvm.OwnW.iload O87 at_240 rfl (q := 242) rfl ?_
      refine Jvm.OwnW.callS0 O87 (y := (⟨"com/example/occupancy/occupancy/cell/internal/BitCellsSetAllPinLaw", "expected", "(IJJJJI)J"⟩ : MethodName)) (argsL := [(.int (1 : Int32)), (.long p8), (.long xa), (.long xb), (.long xc), (.int (3 : Int32))]) (rest := [(.long ((own_o (own_o (own_o (own_g p8) ka ((1 : Int64) <<< (xa.toInt32 &&& 0x3f).toInt64)) kb ((1 : Int64) <<< (xb.toInt32 &&& 0x3f).toInt64)) kc ((1 : Int64) <<< (xc.toInt32 &&& 0x3f).toInt64)) 1))]) at_242 (hw _ (List.mem_of_getElem? (i := 63) rfl)) (hw _ (List.mem_of_getElem? (i := 64) rfl)) (hw _ (List.mem_of_getElem? (i := 65) rfl)) (hw _ (List.mem_of_getElem? (i := 66) rfl)) (by decide) (rm_e l Z a0 hw (1 : Int32) p8 xa xb xc (3 : Int32) h83) rfl pd_11 rfl (hst := rfl) (W := 2) (Nat.le_of_eq rfl) (by decide) (by decide) (c2 := 5) (s2 := 49) rfl rfl (by decide) (by decide) rfl rfl (q := 245) rfl ?_
      intro v88 T88 O88 q88
      obtain rfl := q88
      show Go C _ _ _ _ (T88.setTop (mkF C.m 245 #[.val (.int p0), .val (.int p1), .val (.long p2), .second, .val (.long p4), .second, .val (.long p6), .second, .val (.long p8), .second, .val (.long m), .second, .val (.int wc), .val (.long sp), .second, .val (.long xa), .second, .val (.long xb), .second, .val (.long xc), .second, .val (.int (3 : Int32)), .val (.ref a76), .val (.ref a80), .val (.int (1 : Int32))] [(.long (fn_e (1 : Int32) p8 xa xb xc (3 : Int32))), (.long ((own_o (own_o (own_o (own_g p8) ka ((1 : Int64) <<< (xa.toInt32 &&& 0x3f).toInt64)) kb ((1 : Int64) <<< (xb.toInt32 &&& 0x3f).toInt64)) kc ((1 : Int64) <<< (xc.toInt32 &&& 0x3f).toInt64)) 1))]))
      refine Jvm.OwnW.lcmp O88 at_245 rfl (q := 246) rfl ?_
      refine Jvm.OwnW.ifNo O88 at_246 (teqL (show ((own_o (own_o (own_o (own_g p8) ka ((1 : Int64) <<< (xa.toInt32 &&& 0x3f).toInt64)) kb ((1 : Int64) <<< (xb.toInt32 &&& 0x3f).toInt64)) kc ((1 : Int64) <<< (xc.toInt32 &&& 0x3f).toInt64)) 1) = (fn_e (1 : Int32) p8 xa xb xc (3 : Int32)) from (by have q := own_e3 p8 xa xb xc xan xbn xcn hxan hxbn hxcn (1 : Int32) 1 rfl; (try simp only [hqa, hqb, hqc] at q); exact q))).2 (q := 249) rfl ?_
      refine Jvm.OwnW.iconst O88 at_249 (r := (1 : Int32)) rfl (q := 250) rfl ?_
      refine Jvm.OwnW.goto O88 at_250 (by decide) (q := 254) rfl ?_
      refine Jvm.OwnW.istore O88 at_254 (L' := #[.val (.int p0), .val (.int p1), .val (.long p2), .second, .val (.long p4), .second, .val (.long p6), .second, .val (.long p8), .second, .val (.long m), .second, .val (.int wc), .val (.long sp), .second, .val (.long xa), .second, .val (.long xb), .second, .val (.long xc), .second, .val (.int (3 : Int32)), .val (.ref a76), .val (.ref a80), .val (.int (1 : Int32))]) rfl (q := 256) rfl ?_
      refine Jvm.OwnW.iload O88 at_256 rfl (q := 258) rfl ?_
      refine Jvm.OwnW.iconst O88 at_258 (r := (2 : Int32)) rfl (q := 259) rfl ?_
      by_cases hc259 : (2 : Int32) < wc
      · refine Jvm.OwnW.icmpNo O88 at_259 (tlt hc259).2.2.2 (q := 262) rfl ?_
        refine Jvm.OwnW.iload O88 at_262 rfl (q := 264) rfl ?_
        refine Jvm.OwnW.ifNo O88 at_264 (feq0 (show ¬ ((1 : Int32) = (0 : Int32)) from (by decide))).1 (q := 267) rfl ?_
        refine Jvm.OwnW.aload O88 at_267 rfl rfl (q := 269) rfl ?_
        refine Jvm.OwnW.iconst O88 at_269 (r := (2 : Int32)) rfl (q := 270) rfl ?_
        refine Jvm.OwnW.callV0 O88 (y := (⟨"com/example/occupancy/occupancy/cell/internal/BitCells", "word", "(I)J"⟩ : MethodName)) (z := (⟨"com/example/occupancy/occupancy/cell/internal/BitCells", "word", "(I)J"⟩ : MethodName)) (a := a80) (argsL := [(.int (2 : Int32))]) (rest := []) at_270 (hw _ (List.mem_of_getElem? (i := 58) rfl)) (hw _ (List.mem_of_getElem? (i := 59) rfl)) (hw _ (List.mem_of_getElem? (i := 61) rfl)) rfl (hw _ (List.mem_of_getElem? (i := 60) rfl)) (hw _ (List.mem_of_getElem? (i := 6) rfl)) (hw _ (List.mem_of_getElem? (i := 62) rfl)) (by decide) (rm_o l Z a0 hw a80 (2 : Int32) al 2 nn (own_o (own_o (own_o (own_g p8) ka ((1 : Int64) <<< (xa.toInt32 &&& 0x3f).toInt64)) kb ((1 : Int64) <<< (xb.toInt32 &&& 0x3f).toInt64)) kc ((1 : Int64) <<< (xc.toInt32 &&& 0x3f).toInt64)) h83 E_a80 F_words_a80 V_al rfl (by rw [Int32.lt_iff_toInt_lt, hnn] at hc259; have q : (2 : Int32).toInt = 2 := rfl; omega)) E_a80 rfl pd_10 rfl (hst := rfl) (W := 0) (Nat.le_of_eq rfl) (by decide) (by decide) (c2 := 5) (s2 := 49) rfl rfl (by decide) (by decide) rfl rfl (q := 273) rfl ?_
        intro v89 T89 O89 q89
        obtain rfl := q89
        show Go C _ _ _ _ (T89.setTop (mkF C.m 273 #[.val (.int p0), .val (.int p1), .val (.long p2), .second, .val (.long p4), .second, .val (.long p6), .second, .val (.long p8), .second, .val (.long m), .second, .val (.int wc), .val (.long sp), .second, .val (.long xa), .second, .val (.long xb), .second, .val (.long xc), .second, .val (.int (3 : Int32)), .val (.ref a76), .val (.ref a80), .val (.int (1 : Int32))] [(.long ((own_o (own_o (own_o (own_g p8) ka ((1 : Int64) <<< (xa.toInt32 &&& 0x3f).toInt64)) kb ((1 : Int64) <<< (xb.toInt32 &&& 0x3f).toInt64)) kc ((1 : Int64) <<< (xc.toInt32 &&& 0x3f).toInt64)) 2))]))
        refine Jvm.OwnW.iconst O89 at_273 (r := (2 : Int32)) rfl (q := 274) rfl ?_
        refine Jvm.OwnW.lload O89 at_274 rfl (q := 276) rfl ?_
        refine Jvm.OwnW.lload O89 at_276 rfl (q := 278) rfl ?_
        refine Jvm.OwnW.lload O89 at_278 rfl (q := 280) rfl ?_
        refine Jvm.OwnW.lload O89 at_280 rfl (q := 282) rfl ?_
        refine Jvm.OwnW.iload O89 at_282 rfl (q := 284) rfl ?_
        refine Jvm.OwnW.callS0 O89 (y := (⟨"com/example/occupancy/occupancy/cell/internal/BitCellsSetAllPinLaw", "expected", "(IJJJJI)J"⟩ : MethodName)) (argsL := [(.int (2 : Int32)), (.long p8), (.long xa), (.long xb), (.long xc), (.int (3 : Int32))]) (rest := [(.long ((own_o (own_o (own_o (own_g p8) ka ((1 : Int64) <<< (xa.toInt32 &&& 0x3f).toInt64)) kb ((1 : Int64) <<< (xb.toInt32 &&& 0x3f).toInt64)) kc ((1 : Int64) <<< (xc.toInt32 &&& 0x3f).toInt64)) 2))]) at_284 (hw _ (List.mem_of_getElem? (i := 63) rfl)) (hw _ (List.mem_of_getElem? (i := 64) rfl)) (hw _ (List.mem_of_getElem? (i := 65) rfl)) (hw _ (List.mem_of_getElem? (i := 66) rfl)) (by decide) (rm_e l Z a0 hw (2 : Int32) p8 xa xb xc (3 : Int32) h83) rfl pd_11 rfl (hst := rfl) (W := 2) (Nat.le_of_eq rfl) (by decide) (by decide) (c2 := 5) (s2 := 49) rfl rfl (by decide) (by decide) rfl rfl (q := 287) rfl ?_
        intro v90 T90 O90 q90
        obtain rfl := q90
        show Go C _ _ _ _ (T90.setTop (mkF C.m 287 #[.val (.int p0), .val (.int p1), .val (.long p2), .second, .val (.long p4), .second, .val (.long p6), .second, .val (.long p8), .second, .val (.long m), .second, .val (.int wc), .val (.long sp), .second, .val (.long xa), .second, .val (.long xb), .second, .val (.long xc), .second, .val (.int (3 : Int32)), .val (.ref a76), .val (.ref a80), .val (.int (1 : Int32))] [(.long (fn_e (2 : Int32) p8 xa xb xc (3 : Int32))), (.long ((own_o (own_o (own_o (own_g p8) ka ((1 : Int64) <<< (xa.toInt32 &&& 0x3f).toInt64)) kb ((1 : Int64) <<< (xb.toInt32 &&& 0x3f).toInt64)) kc ((1 : Int64) <<< (xc.toInt32 &&& 0x3f).toInt64)) 2))]))
        refine Jvm.OwnW.lcmp O90 at_287 rfl (q := 288) rfl ?_
        refine Jvm.OwnW.ifNo O90 at_288 (teqL (show ((own_o (own_o (own_o (own_g p8) ka ((1 : Int64) <<< (xa.toInt32 &&& 0x3f).toInt64)) kb ((1 : Int64) <<< (xb.toInt32 &&& 0x3f).toInt64)) kc ((1 : Int64) <<< (xc.toInt32 &&& 0x3f).toInt64)) 2) = (fn_e (2 : Int32) p8 xa xb xc (3 : Int32)) from (by have q := own_e3 p8 xa xb xc xan xbn xcn hxan hxbn hxcn (2 : Int32) 2 rfl; (try simp only [hqa, hqb, hqc] at q); exact q))).2 (q := 291) rfl ?_
        refine Jvm.OwnW.iconst O90 at_291 (r := (1 : Int32)) rfl (q := 292) rfl ?_
        refine Jvm.OwnW.goto O90 at_292 (by decide) (q := 296) rfl ?_
        refine Jvm.OwnW.istore O90 at_296 (L' := #[.val (.int p0), .val (.int p1), .val (.long p2), .second, .val (.long p4), .second, .val (.long p6), .second, .val (.long p8), .second, .val (.long m), .second, .val (.int wc), .val (.long sp), .second, .val (.long xa), .second, .val (.long xb), .second, .val (.long xc), .second, .val (.int (3 : Int32)), .val (.ref a76), .val (.ref a80), .val (.int (1 : Int32))]) rfl (q := 298) rfl ?_
        refine Jvm.OwnW.iload O90 at_298 rfl (q := 300) rfl ?_
        refine Jvm.OwnW.iconst O90 at_300 (r := (3 : Int32)) rfl (q := 301) rfl ?_
        by_cases hc301 : (3 : Int32) < wc
        · refine Jvm.OwnW.icmpNo O90 at_301 (tlt hc301).2.2.2 (q := 304) rfl ?_
          refine Jvm.OwnW.iload O90 at_304 rfl (q := 306) rfl ?_
          refine Jvm.OwnW.ifNo O90 at_306 (feq0 (show ¬ ((1 : Int32) = (0 : Int32)) from (by decide))).1 (q := 309) rfl ?_
          refine Jvm.OwnW.aload O90 at_309 rfl rfl (q := 311) rfl ?_
          refine Jvm.OwnW.iconst O90 at_311 (r := (3 : Int32)) rfl (q := 312) rfl ?_
          refine Jvm.OwnW.callV0 O90 (y := (⟨"com/example/occupancy/occupancy/cell/internal/BitCells", "word", "(I)J"⟩ : MethodName)) (z := (⟨"com/example/occupancy/occupancy/cell/internal/BitCells", "word", "(I)J"⟩ : MethodName)) (a := a80) (argsL := [(.int (3 : Int32))]) (rest := []) at_312 (hw _ (List.mem_of_getElem? (i := 58) rfl)) (hw _ (List.mem_of_getElem? (i := 59) rfl)) (hw _ (List.mem_of_getElem? (i := 61) rfl)) rfl (hw _ (List.mem_of_getElem? (i := 60) rfl)) (hw _ (List.mem_of_getElem? (i := 6) rfl)) (hw _ (List.mem_of_getElem? (i := 62) rfl)) (by decide) (rm_o l Z a0 hw a80 (3 : Int32) al 3 nn (own_o (own_o (own_o (own_g p8) ka ((1 : Int64) <<< (xa.toInt32 &&& 0x3f).toInt64)) kb ((1 : Int64) <<< (xb.toInt32 &&& 0x3f).toInt64)) kc ((1 : Int64) <<< (xc.toInt32 &&& 0x3f).toInt64)) h83 E_a80 F_words_a80 V_al rfl (by rw [Int32.lt_iff_toInt_lt, hnn] at hc301; have q : (3 : Int32).toInt = 3 := rfl; omega)) E_a80 rfl pd_10 rfl (hst := rfl) (W := 0) (Nat.le_of_eq rfl) (by decide) (by decide) (c2 := 5) (s2 := 49) rfl rfl (by decide) (by decide) rfl rfl (q := 315) rfl ?_
          intro v91 T91 O91 q91
          obtain rfl := q91
          show Go C _ _ _ _ (T91.setTop (mkF C.m 315 #[.val (.int p0), .val (.int p1), .val (.long p2), .second, .val (.long p4), .second, .val (.long p6), .second, .val (.long p8), .second, .val (.long m), .second, .val (.int wc), .val (.long sp), .second, .val (.long xa), .second, .val (.long xb), .second, .val (.long xc), .second, .val (.int (3 : Int32)), .val (.ref a76), .val (.ref a80), .val (.int (1 : Int32))] [(.long ((own_o (own_o (own_o (own_g p8) ka ((1 : Int64) <<< (xa.toInt32 &&& 0x3f).toInt64)) kb ((1 : Int64) <<< (xb.toInt32 &&& 0x3f).toInt64)) kc ((1 : Int64) <<< (xc.toInt32 &&& 0x3f).toInt64)) 3))]))
          refine Jvm.OwnW.iconst O91 at_315 (r := (3 : Int32)) rfl (q := 316) rfl ?_
          refine Jvm.OwnW.lload O91 at_316 rfl (q := 318) rfl ?_
          refine Jvm.OwnW.lload O91 at_318 rfl (q := 320) rfl ?_
          refine Jvm.OwnW.lload O91 at_320 rfl (q := 322) rfl ?_
          refine Jvm.OwnW.lload O91 at_322 rfl (q := 324) rfl ?_
          refine Jvm.OwnW.iload O91 at_324 rfl (q := 326) rfl ?_
          refine Jvm.OwnW.callS0 O91 (y := (⟨"com/example/occupancy/occupancy/cell/internal/BitCellsSetAllPinLaw", "expected", "(IJJJJI)J"⟩ : MethodName)) (argsL := [(.int (3 : Int32)), (.long p8), (.long xa), (.long xb), (.long xc), (.int (3 : Int32))]) (rest := [(.long ((own_o (own_o (own_o (own_g p8) ka ((1 : Int64) <<< (xa.toInt32 &&& 0x3f).toInt64)) kb ((1 : Int64) <<< (xb.toInt32 &&& 0x3f).toInt64)) kc ((1 : Int64) <<< (xc.toInt32 &&& 0x3f).toInt64)) 3))]) at_326 (hw _ (List.mem_of_getElem? (i := 63) rfl)) (hw _ (List.mem_of_getElem? (i := 64) rfl)) (hw _ (List.mem_of_getElem? (i := 65) rfl)) (hw _ (List.mem_of_getElem? (i := 66) rfl)) (by decide) (rm_e l Z a0 hw (3 : Int32) p8 xa xb xc (3 : Int32) h83) rfl pd_11 rfl (hst := rfl) (W := 2) (Nat.le_of_eq rfl) (by decide) (by decide) (c2 := 5) (s2 := 49) rfl rfl (by decide) (by decide) rfl rfl (q := 329) rfl ?_
          intro v92 T92 O92 q92
          obtain rfl := q92
          show Go C _ _ _ _ (T92.setTop (mkF C.m 329 #[.val (.int p0), .val (.int p1), .val (.long p2), .second, .val (.long p4), .second, .val (.long p6), .second, .val (.long p8), .second, .val (.long m), .second, .val (.int wc), .val (.long sp), .second, .val (.long xa), .second, .val (.long xb), .second, .val (.long xc), .second, .val (.int (3 : Int32)), .val (.ref a76), .val (.ref a80), .val (.int (1 : Int32))] [(.long (fn_e (3 : Int32) p8 xa xb xc (3 : Int32))), (.long ((own_o (own_o (own_o (own_g p8) ka ((1 : Int64) <<< (xa.toInt32 &&& 0x3f).toInt64)) kb ((1 : Int64) <<< (xb.toInt32 &&& 0x3f).toInt64)) kc ((1 : Int64) <<< (xc.toInt32 &&& 0x3f).toInt64)) 3))]))
          refine Jvm.OwnW.lcmp O92 at_329 rfl (q := 330) rfl ?_
          refine Jvm.OwnW.ifNo O92 at_330 (teqL (show ((own_o (own_o (own_o (own_g p8) ka ((1 : Int64) <<< (xa.toInt32 &&& 0x3f).toInt64)) kb ((1 : Int64) <<< (xb.toInt32 &&& 0x3f).toInt64)) kc ((1 : Int64) <<< (xc.toInt32 &&& 0x3f).toInt64)) 3) = (fn_e (3 : Int32) p8 xa xb xc (3 : Int32)) from (by have q := own_e3 p8 xa xb xc xan xbn xcn hxan hxbn hxcn (3 : Int32) 3 rfl; (try simp only [hqa, hqb, hqc] at q); exact q))).2 (q := 333) rfl ?_
          refine Jvm.OwnW.iconst O92 at_333 (r := (1 : Int32)) rfl (q := 334) rfl ?_
          refine Jvm.OwnW.goto O92 at_334 (by decide) (q := 338) rfl ?_
          refine Jvm.OwnW.istore O92 at_338 (L' := #[.val (.int p0), .val (.int p1), .val (.long p2), .second, .val (.long p4), .second, .val (.long p6), .second, .val (.long p8), .second, .val (.long m), .second, .val (.int wc), .val (.long sp), .second, .val (.long xa), .second, .val (.long xb), .second, .val (.long xc), .second, .val (.int (3 : Int32)), .val (.ref a76), .val (.ref a80), .val (.int (1 : Int32))]) rfl (q := 340) rfl ?_
          refine Jvm.OwnW.iload O92 at_340 rfl (q := 342) rfl ?_
          exact Jvm.OwnW.retB O92 at_342 rfl (Or.inr rfl) (by decide) (by decide) rfl
        · refine Jvm.OwnW.icmpYes O90 at_301 (flt hc301).2.2.2 (by decide) (q := 340) rfl ?_
          refine Jvm.OwnW.iload O90 at_340 rfl (q := 342) rfl ?_
          exact Jvm.OwnW.retB O90 at_342 rfl (Or.inr rfl) (by decide) (by decide) rfl
      · refine Jvm.OwnW.icmpYes O88 at_259 (flt hc259).2.2.2 (by decide) (q := 298) rfl ?_
        refine Jvm.OwnW.iload O88 at_298 rfl (q := 300) rfl ?_
        refine Jvm.OwnW.iconst O88 at_300 (r := (3 : Int32)) rfl (q := 301) rfl ?_
        by_cases hc301 : (3 : Int32) < wc
        · refine Jvm.OwnW.icmpNo O88 at_301 (tlt hc301).2.2.2 (q := 304) rfl ?_
          refine Jvm.OwnW.iload O88 at_304 rfl (q := 306) rfl ?_
          refine Jvm.OwnW.ifNo O88 at_306 (feq0 (show ¬ ((1 : Int32) = (0 : Int32)) from (by decide))).1 (q := 309) rfl ?_
          refine Jvm.OwnW.aload O88 at_309 rfl rfl (q := 311) rfl ?_
          refine Jvm.OwnW.iconst O88 at_311 (r := (3 : Int32)) rfl (q := 312) rfl ?_
          refine Jvm.OwnW.callV0 O88 (y := (⟨"com/example/occupancy/occupancy/cell/internal/BitCells", "word", "(I)J"⟩ : MethodName)) (z := (⟨"com/example/occupancy/occupancy/cell/internal/BitCells", "word", "(I)J"⟩ : MethodName)) (a := a80) (argsL := [(.int (3 : Int32))]) (rest := []) at_312 (hw _ (List.mem_of_getElem? (i := 58) rfl)) (hw _ (List.mem_of_getElem? (i := 59) rfl)) (hw _ (List.mem_of_getElem? (i := 61) rfl)) rfl (hw _ (List.mem_of_getElem? (i := 60) rfl)) (hw _ (List.mem_of_getElem? (i := 6) rfl)) (hw _ (List.mem_of_getElem? (i := 62) rfl)) (by decide) (rm_o l Z a0 hw a80 (3 : Int32) al 3 nn (own_o (own_o (own_o (own_g p8) ka ((1 : Int64) <<< (xa.toInt32 &&& 0x3f).toInt64)) kb ((1 : Int64) <<< (xb.toInt32 &&& 0x3f).toInt64)) kc ((1 : Int64) <<< (xc.toInt32 &&& 0x3f).toInt64)) h83 E_a80 F_words_a80 V_al rfl (by rw [Int32.lt_iff_toInt_lt, hnn] at hc301; have q : (3 : Int32).toInt = 3 := rfl; omega)) E_a80 rfl pd_10 rfl (hst := rfl) (W := 0) (Nat.le_of_eq rfl) (by decide) (by decide) (c2 := 5) (s2 := 49) rfl rfl (by decide) (by decide) rfl rfl (q := 315) rfl ?_
          intro v93 T93 O93 q93
          obtain rfl := q93
          show Go C _ _ _ _ (T93.setTop (mkF C.m 315 #[.val (.int p0), .val (.int p1), .val (.long p2), .second, .val (.long p4), .second, .val (.long p6), .second, .val (.long p8), .second, .val (.long m), .second, .val (.int wc), .val (.long sp), .second, .val (.long xa), .second, .val (.long xb), .second, .val (.long xc), .second, .val (.int (3 : Int32)), .val (.ref a76), .val (.ref a80), .val (.int (1 : Int32))] [(.long ((own_o (own_o (own_o (own_g p8) ka ((1 : Int64) <<< (xa.toInt32 &&& 0x3f).toInt64)) kb ((1 : Int64) <<< (xb.toInt32 &&& 0x3f).toInt64)) kc ((1 : Int64) <<< (xc.toInt32 &&& 0x3f).toInt64)) 3))]))
          refine Jvm.OwnW.iconst O93 at_315 (r := (3 : Int32)) rfl (q := 316) rfl ?_
          refine Jvm.OwnW.lload O93 at_316 rfl (q := 318) rfl ?_
          refine Jvm.OwnW.lload O93 at_318 rfl (q := 320) rfl ?_
          refine Jvm.OwnW.lload O93 at_320 rfl (q := 322) rfl ?_
          refine Jvm.OwnW.lload O93 at_322 rfl (q := 324) rfl ?_
          refine Jvm.OwnW.iload O93 at_324 rfl (q := 326) rfl ?_
          refine Jvm.OwnW.callS0 O93 (y := (⟨"com/example/occupancy/occupancy/cell/internal/BitCellsSetAllPinLaw", "expected", "(IJJJJI)J"⟩ : MethodName)) (argsL := [(.int (3 : Int32)), (.long p8), (.long xa), (.long xb), (.long xc), (.int (3 : Int32))]) (rest := [(.long ((own_o (own_o (own_o (own_g p8) ka ((1 : Int64) <<< (xa.toInt32 &&& 0x3f).toInt64)) kb ((1 : Int64) <<< (xb.toInt32 &&& 0x3f).toInt64)) kc ((1 : Int64) <<< (xc.toInt32 &&& 0x3f).toInt64)) 3))]) at_326 (hw _ (List.mem_of_getElem? (i := 63) rfl)) (hw _ (List.mem_of_getElem? (i := 64) rfl)) (hw _ (List.mem_of_getElem? (i := 65) rfl)) (hw _ (List.mem_of_getElem? (i := 66) rfl)) (by decide) (rm_e l Z a0 hw (3 : Int32) p8 xa xb xc (3 : Int32) h83) rfl pd_11 rfl (hst := rfl) (W := 2) (Nat.le_of_eq rfl) (by decide) (by decide) (c2 := 5) (s2 := 49) rfl rfl (by decide) (by decide) rfl rfl (q := 329) rfl ?_
          intro v94 T94 O94 q94
          obtain rfl := q94
          show Go C _ _ _ _ (T94.setTop (mkF C.m 329 #[.val (.int p0), .val (.int p1), .val (.long p2), .second, .val (.long p4), .second, .val (.long p6), .second, .val (.long p8), .second, .val (.long m), .second, .val (.int wc), .val (.long sp), .second, .val (.long xa), .second, .val (.long xb), .second, .val (.long xc), .second, .val (.int (3 : Int32)), .val (.ref a76), .val (.ref a80), .val (.int (1 : Int32))] [(.long (fn_e (3 : Int32) p8 xa xb xc (3 : Int32))), (.long ((own_o (own_o (own_o (own_g p8) ka ((1 : Int64) <<< (xa.toInt32 &&& 0x3f).toInt64)) kb ((1 : Int64) <<< (xb.toInt32 &&& 0x3f).toInt64)) kc ((1 : Int64) <<< (xc.toInt32 &&& 0x3f).toInt64)) 3))]))
          refine Jvm.OwnW.lcmp O94 at_329 rfl (q := 330) rfl ?_
          refine Jvm.OwnW.ifNo O94 at_330 (teqL (show ((own_o (own_o (own_o (own_g p8) ka ((1 : Int64) <<< (xa.toInt32 &&& 0x3f).toInt64)) kb ((1 : Int64) <<< (xb.toInt32 &&& 0x3f).toInt64)) kc ((1 : Int64) <<< (xc.toInt32 &&& 0x3f).toInt64)) 3) = (fn_e (3 : Int32) p8 xa xb xc (3 : Int32)) from (by have q := own_e3 p8 xa xb xc xan xbn xcn hxan hxbn hxcn (3 : Int32) 3 rfl; (try simp only [hqa, hqb, hqc] at q); exact q))).2 (q := 333) rfl ?_
          refine Jvm.OwnW.iconst O94 at_333 (r := (1 : Int32)) rfl (q := 334) rfl ?_
          refine Jvm.OwnW.goto O94 at_334 (by decide) (q := 338) rfl ?_
          refine Jvm.OwnW.istore O94 at_338 (L' := #[.val (.int p0), .val (.int p1), .val (.long p2), .second, .val (.long p4), .second, .val (.long p6), .second, .val (.long p8), .second, .val (.long m), .second, .val (.int wc), .val (.long sp), .second, .val (.long xa), .second, .val (.long xb), .second, .val (.long xc), .second, .val (.int (3 : Int32)), .val (.ref a76), .val (.ref a80), .val (.int (1 : Int32))]) rfl (q := 340) rfl ?_
          refine Jvm.OwnW.iload O94 at_340 rfl (q := 342) rfl ?_
          exact Jvm.OwnW.retB O94 at_342 rfl (Or.inr rfl) (by decide) (by decide) rfl
        · refine Jvm.OwnW.icmpYes O88 at_301 (flt hc301).2.2.2 (by decide) (q := 340) rfl ?_
          refine Jvm.OwnW.iload O88 at_340 rfl (q := 342) rfl ?_
          exact Jvm.OwnW.retB O88 at_342 rfl (Or.inr rfl) (by decide) (by decide) rfl
    · refine Jvm.OwnW.icmpYes O86 at_217 (flt hc217).2.2.2 (by decide) (q := 256) rfl ?_
      refine Jvm.OwnW.iload O86 at_256 rfl (q := 258) rfl ?_
      refine Jvm.OwnW.iconst O86 at_258 (r := (2 : Int32)) rfl (q := 259) rfl ?_
      by_cases hc259 : (2 : Int32) < wc
      · refine Jvm.OwnW.icmpNo O86 at_259 (tlt hc259).2.2.2 (q := 262) rfl ?_
        refine Jvm.OwnW.iload O86 at_262 rfl (q := 264) rfl ?_
        refine Jvm.OwnW.ifNo O86 at_264 (feq0 (show ¬ ((1 : Int32) = (0 : Int32)) from (by decide))).1 (q := 267) rfl ?_
        refine Jvm.OwnW.aload O86 at_267 rfl rfl (q := 269) rfl ?_
        refine Jvm.OwnW.iconst O86 at_269 (r := (2 : Int32)) rfl (q := 270) rfl ?_
        refine Jvm.OwnW.callV0 O86 (y := (⟨"com/example/occupancy/occupancy/cell/internal/BitCells", "word", "(I)J"⟩ : MethodName)) (z := (⟨"com/example/occupancy/occupancy/cell/internal/BitCells", "word", "(I)J"⟩ : MethodName)) (a := a80) (argsL := [(.int (2 : Int32))]) (rest := []) at_270 (hw _ (List.mem_of_getElem? (i := 58) rfl)) (hw _ (List.mem_of_getElem? (i := 59) rfl)) (hw _ (List.mem_of_getElem? (i := 61) rfl)) rfl (hw _ (List.mem_of_getElem? (i := 60) rfl)) (hw _ (List.mem_of_getElem? (i := 6) rfl)) (hw _ (List.mem_of_getElem? (i := 62) rfl)) (by decide) (rm_o l Z a0 hw a80 (2 : Int32) al 2 nn (own_o (own_o (own_o (own_g p8) ka ((1 : Int64) <<< (xa.toInt32 &&& 0x3f).toInt64)) kb ((1 : Int64) <<< (xb.toInt32 &&& 0x3f).toInt64)) kc ((1 : Int64) <<< (xc.toInt32 &&& 0x3f).toInt64)) h83 E_a80 F_words_a80 V_al rfl (by rw [Int32.lt_iff_toInt_lt, hnn] at hc259; have q : (2 : Int32).toInt = 2 := rfl; omega)) E_a80 rfl pd_10 rfl (hst := rfl) (W := 0) (Nat.le_of_eq rfl) (by decide) (by decide) (c2 := 5) (s2 := 49) rfl rfl (by decide) (by decide) rfl rfl (q := 273) rfl ?_
        intro v95 T95 O95 q95
        obtain rfl := q95
        show Go C _ _ _ _ (T95.setTop (mkF C.m 273 #[.val (.int p0), .val (.int p1), .val (.long p2), .second, .val (.long p4), .second, .val (.long p6), .second, .val (.long p8), .second, .val (.long m), .second, .val (.int wc), .val (.long sp), .second, .val (.long xa), .second, .val (.long xb), .second, .val (.long xc), .second, .val (.int (3 : Int32)), .val (.ref a76), .val (.ref a80), .val (.int (1 : Int32))] [(.long ((own_o (own_o (own_o (own_g p8) ka ((1 : Int64) <<< (xa.toInt32 &&& 0x3f).toInt64)) kb ((1 : Int64) <<< (xb.toInt32 &&& 0x3f).toInt64)) kc ((1 : Int64) <<< (xc.toInt32 &&& 0x3f).toInt64)) 2))]))
        refine Jvm.OwnW.iconst O95 at_273 (r := (2 : Int32)) rfl (q := 274) rfl ?_
        refine Jvm.OwnW.lload O95 at_274 rfl (q := 276) rfl ?_
        refine Jvm.OwnW.lload O95 at_276 rfl (q := 278) rfl ?_
        refine Jvm.OwnW.lload O95 at_278 rfl (q := 280) rfl ?_
        refine Jvm.OwnW.lload O95 at_280 rfl (q := 282) rfl ?_
        refine Jvm.OwnW.iload O95 at_282 rfl (q := 284) rfl ?_
        refine Jvm.OwnW.callS0 O95 (y := (⟨"com/example/occupancy/occupancy/cell/internal/BitCellsSetAllPinLaw", "expected", "(IJJJJI)J"⟩ : MethodName)) (argsL := [(.int (2 : Int32)), (.long p8), (.long xa), (.long xb), (.long xc), (.int (3 : Int32))]) (rest := [(.long ((own_o (own_o (own_o (own_g p8) ka ((1 : Int64) <<< (xa.toInt32 &&& 0x3f).toInt64)) kb ((1 : Int64) <<< (xb.toInt32 &&& 0x3f).toInt64)) kc ((1 : Int64) <<< (xc.toInt32 &&& 0x3f).toInt64)) 2))]) at_284 (hw _ (List.mem_of_getElem? (i := 63) rfl)) (hw _ (List.mem_of_getElem? (i := 64) rfl)) (hw _ (List.mem_of_getElem? (i := 65) rfl)) (hw _ (List.mem_of_getElem? (i := 66) rfl)) (by decide) (rm_e l Z a0 hw (2 : Int32) p8 xa xb xc (3 : Int32) h83) rfl pd_11 rfl (hst := rfl) (W := 2) (Nat.le_of_eq rfl) (by decide) (by decide) (c2 := 5) (s2 := 49) rfl rfl (by decide) (by decide) rfl rfl (q := 287) rfl ?_
        intro v96 T96 O96 q96
        obtain rfl := q96
        show Go C _ _ _ _ (T96.setTop (mkF C.m 287 #[.val (.int p0), .val (.int p1), .val (.long p2), .second, .val (.long p4), .second, .val (.long p6), .second, .val (.long p8), .second, .val (.long m), .second, .val (.int wc), .val (.long sp), .second, .val (.long xa), .second, .val (.long xb), .second, .val (.long xc), .second, .val (.int (3 : Int32)), .val (.ref a76), .val (.ref a80), .val (.int (1 : Int32))] [(.long (fn_e (2 : Int32) p8 xa xb xc (3 : Int32))), (.long ((own_o (own_o (own_o (own_g p8) ka ((1 : Int64) <<< (xa.toInt32 &&& 0x3f).toInt64)) kb ((1 : Int64) <<< (xb.toInt32 &&& 0x3f).toInt64)) kc ((1 : Int64) <<< (xc.toInt32 &&& 0x3f).toInt64)) 2))]))
        refine Jvm.OwnW.lcmp O96 at_287 rfl (q := 288) rfl ?_
        refine Jvm.OwnW.ifNo O96 at_288 (teqL (show ((own_o (own_o (own_o (own_g p8) ka ((1 : Int64) <<< (xa.toInt32 &&& 0x3f).toInt64)) kb ((1 : Int64) <<< (xb.toInt32 &&& 0x3f).toInt64)) kc ((1 : Int64) <<< (xc.toInt32 &&& 0x3f).toInt64)) 2) = (fn_e (2 : Int32) p8 xa xb xc (3 : Int32)) from (by have q := own_e3 p8 xa xb xc xan xbn xcn hxan hxbn hxcn (2 : Int32) 2 rfl; (try simp only [hqa, hqb, hqc] at q); exact q))).2 (q := 291) rfl ?_
        refine Jvm.OwnW.iconst O96 at_291 (r := (1 : Int32)) rfl (q := 292) rfl ?_
        refine Jvm.OwnW.goto O96 at_292 (by decide) (q := 296) rfl ?_
        refine Jvm.OwnW.istore O96 at_296 (L' := #[.val (.int p0), .val (.int p1), .val (.long p2), .second, .val (.long p4), .second, .val (.long p6), .second, .val (.long p8), .second, .val (.long m), .second, .val (.int wc), .val (.long sp), .second, .val (.long xa), .second, .val (.long xb), .second, .val (.long xc), .second, .val (.int (3 : Int32)), .val (.ref a76), .val (.ref a80), .val (.int (1 : Int32))]) rfl (q := 298) rfl ?_
        refine Jvm.OwnW.iload O96 at_298 rfl (q := 300) rfl ?_
        refine Jvm.OwnW.iconst O96 at_300 (r := (3 : Int32)) rfl (q := 301) rfl ?_
        by_cases hc301 : (3 : Int32) < wc
        · refine Jvm.OwnW.icmpNo O96 at_301 (tlt hc301).2.2.2 (q := 304) rfl ?_
          refine Jvm.OwnW.iload O96 at_304 rfl (q := 306) rfl ?_
          refine Jvm.OwnW.ifNo O96 at_306 (feq0 (show ¬ ((1 : Int32) = (0 : Int32)) from (by decide))).1 (q := 309) rfl ?_
          refine Jvm.OwnW.aload O96 at_309 rfl rfl (q := 311) rfl ?_
          refine Jvm.OwnW.iconst O96 at_311 (r := (3 : Int32)) rfl (q := 312) rfl ?_
          refine Jvm.OwnW.callV0 O96 (y := (⟨"com/example/occupancy/occupancy/cell/internal/BitCells", "word", "(I)J"⟩ : MethodName)) (z := (⟨"com/example/occupancy/occupancy/cell/internal/BitCells", "word", "(I)J"⟩ : MethodName)) (a := a80) (argsL := [(.int (3 : Int32))]) (rest := []) at_312 (hw _ (List.mem_of_getElem? (i := 58) rfl)) (hw _ (List.mem_of_getElem? (i := 59) rfl)) (hw _ (List.mem_of_getElem? (i := 61) rfl)) rfl (hw _ (List.mem_of_getElem? (i := 60) rfl)) (hw _ (List.mem_of_getElem? (i := 6) rfl)) (hw _ (List.mem_of_getElem? (i := 62) rfl)) (by decide) (rm_o l Z a0 hw a80 (3 : Int32) al 3 nn (own_o (own_o (own_o (own_g p8) ka ((1 : Int64) <<< (xa.toInt32 &&& 0x3f).toInt64)) kb ((1 : Int64) <<< (xb.toInt32 &&& 0x3f).toInt64)) kc ((1 : Int64) <<< (xc.toInt32 &&& 0x3f).toInt64)) h83 E_a80 F_words_a80 V_al rfl (by rw [Int32.lt_iff_toInt_lt, hnn] at hc301; have q : (3 : Int32).toInt = 3 := rfl; omega)) E_a80 rfl pd_10 rfl (hst := rfl) (W := 0) (Nat.le_of_eq rfl) (by decide) (by decide) (c2 := 5) (s2 := 49) rfl rfl (by decide) (by decide) rfl rfl (q := 315) rfl ?_
          intro v97 T97 O97 q97
          obtain rfl := q97
          show Go C _ _ _ _ (T97.setTop (mkF C.m 315 #[.val (.int p0), .val (.int p1), .val (.long p2), .second, .val (.long p4), .second, .val (.long p6), .second, .val (.long p8), .second, .val (.long m), .second, .val (.int wc), .val (.long sp), .second, .val (.long xa), .second, .val (.long xb), .second, .val (.long xc), .second, .val (.int (3 : Int32)), .val (.ref a76), .val (.ref a80), .val (.int (1 : Int32))] [(.long ((own_o (own_o (own_o (own_g p8) ka ((1 : Int64) <<< (xa.toInt32 &&& 0x3f).toInt64)) kb ((1 : Int64) <<< (xb.toInt32 &&& 0x3f).toInt64)) kc ((1 : Int64) <<< (xc.toInt32 &&& 0x3f).toInt64)) 3))]))
          refine Jvm.OwnW.iconst O97 at_315 (r := (3 : Int32)) rfl (q := 316) rfl ?_
          refine Jvm.OwnW.lload O97 at_316 rfl (q := 318) rfl ?_
          refine Jvm.OwnW.lload O97 at_318 rfl (q := 320) rfl ?_
          refine Jvm.OwnW.lload O97 at_320 rfl (q := 322) rfl ?_
          refine Jvm.OwnW.lload O97 at_322 rfl (q := 324) rfl ?_
          refine Jvm.OwnW.iload O97 at_324 rfl (q := 326) rfl ?_
          refine Jvm.OwnW.callS0 O97 (y := (⟨"com/example/occupancy/occupancy/cell/internal/BitCellsSetAllPinLaw", "expected", "(IJJJJI)J"⟩ : MethodName)) (argsL := [(.int (3 : Int32)), (.long p8), (.long xa), (.long xb), (.long xc), (.int (3 : Int32))]) (rest := [(.long ((own_o (own_o (own_o (own_g p8) ka ((1 : Int64) <<< (xa.toInt32 &&& 0x3f).toInt64)) kb ((1 : Int64) <<< (xb.toInt32 &&& 0x3f).toInt64)) kc ((1 : Int64) <<< (xc.toInt32 &&& 0x3f).toInt64)) 3))]) at_326 (hw _ (List.mem_of_getElem? (i := 63) rfl)) (hw _ (List.mem_of_getElem? (i := 64) rfl)) (hw _ (List.mem_of_getElem? (i := 65) rfl)) (hw _ (List.mem_of_getElem? (i := 66) rfl)) (by decide) (rm_e l Z a0 hw (3 : Int32) p8 xa xb xc (3 : Int32) h83) rfl pd_11 rfl (hst := rfl) (W := 2) (Nat.le_of_eq rfl) (by decide) (by decide) (c2 := 5) (s2 := 49) rfl rfl (by decide) (by decide) rfl rfl (q := 329) rfl ?_
          intro v98 T98 O98 q98
          obtain rfl := q98
          show Go C _ _ _ _ (T98.setTop (mkF C.m 329 #[.val (.int p0), .val (.int p1), .val (.long p2), .second, .val (.long p4), .second, .val (.long p6), .second, .val (.long p8), .second, .val (.long m), .second, .val (.int wc), .val (.long sp), .second, .val (.long xa), .second, .val (.long xb), .second, .val (.long xc), .second, .val (.int (3 : Int32)), .val (.ref a76), .val (.ref a80), .val (.int (1 : Int32))] [(.long (fn_e (3 : Int32) p8 xa xb xc (3 : Int32))), (.long ((own_o (own_o (own_o (own_g p8) ka ((1 : Int64) <<< (xa.toInt32 &&& 0x3f).toInt64)) kb ((1 : Int64) <<< (xb.toInt32 &&& 0x3f).toInt64)) kc ((1 : Int64) <<< (xc.toInt32 &&& 0x3f).toInt64)) 3))]))
          refine Jvm.OwnW.lcmp O98 at_329 rfl (q := 330) rfl ?_
          refine Jvm.OwnW.ifNo O98 at_330 (teqL (show ((own_o (own_o (own_o (own_g p8) ka ((1 : Int64) <<< (xa.toInt32 &&& 0x3f).toInt64)) kb ((1 : Int64) <<< (xb.toInt32 &&& 0x3f).toInt64)) kc ((1 : Int64) <<< (xc.toInt32 &&& 0x3f).toInt64)) 3) = (fn_e (3 : Int32) p8 xa xb xc (3 : Int32)) from (by have q := own_e3 p8 xa xb xc xan xbn xcn hxan hxbn hxcn (3 : Int32) 3 rfl; (try simp only [hqa, hqb, hqc] at q); exact q))).2 (q := 333) rfl ?_
          refine Jvm.OwnW.iconst O98 at_333 (r := (1 : Int32)) rfl (q := 334) rfl ?_
          refine Jvm.OwnW.goto O98 at_334 (by decide) (q := 338) rfl ?_
          refine Jvm.OwnW.istore O98 at_338 (L' := #[.val (.int p0), .val (.int p1), .val (.long p2), .second, .val (.long p4), .second, .val (.long p6), .second, .val (.long p8), .second, .val (.long m), .second, .val (.int wc), .val (.long sp), .second, .val (.long xa), .second, .val (.long xb), .second, .val (.long xc), .second, .val (.int (3 : Int32)), .val (.ref a76), .val (.ref a80), .val (.int (1 : Int32))]) rfl (q := 340) rfl ?_
          refine Jvm.OwnW.iload O98 at_340 rfl (q := 342) rfl ?_
          exact Jvm.OwnW.retB O98 at_342 rfl (Or.inr rfl) (by decide) (by decide) rfl
        · refine Jvm.OwnW.icmpYes O96 at_301 (flt hc301).2.2.2 (by decide) (q := 340) rfl ?_
          refine Jvm.OwnW.iload O96 at_340 rfl (q := 342) rfl ?_
          exact Jvm.OwnW.retB O96 at_342 rfl (Or.inr rfl) (by decide) (by decide) rfl
      · refine Jvm.OwnW.icmpYes O86 at_259 (flt hc259).2.2.2 (by decide) (q := 298) rfl ?_
        refine Jvm.OwnW.iload O86 at_298 rfl (q := 300) rfl ?_
        refine Jvm.OwnW.iconst O86 at_300 (r := (3 : Int32)) rfl (q := 301) rfl ?_
        by_cases hc301 : (3 : Int32) < wc
        · refine Jvm.OwnW.icmpNo O86 at_301 (tlt hc301).2.2.2 (q := 304) rfl ?_
          refine Jvm.OwnW.iload O86 at_304 rfl (q := 306) rfl ?_
          refine Jvm.OwnW.ifNo O86 at_306 (feq0 (show ¬ ((1 : Int32) = (0 : Int32)) from (by decide))).1 (q := 309) rfl ?_
          refine Jvm.OwnW.aload O86 at_309 rfl rfl (q := 311) rfl ?_
          refine Jvm.OwnW.iconst O86 at_311 (r := (3 : Int32)) rfl (q := 312) rfl ?_
          refine Jvm.OwnW.callV0 O86 (y := (⟨"com/example/occupancy/occupancy/cell/internal/BitCells", "word", "(I)J"⟩ : MethodName)) (z := (⟨"com/example/occupancy/occupancy/cell/internal/BitCells", "word", "(I)J"⟩ : MethodName)) (a := a80) (argsL := [(.int (3 : Int32))]) (rest := []) at_312 (hw _ (List.mem_of_getElem? (i := 58) rfl)) (hw _ (List.mem_of_getElem? (i := 59) rfl)) (hw _ (List.mem_of_getElem? (i := 61) rfl)) rfl (hw _ (List.mem_of_getElem? (i := 60) rfl)) (hw _ (List.mem_of_getElem? (i := 6) rfl)) (hw _ (List.mem_of_getElem? (i := 62) rfl)) (by decide) (rm_o l Z a0 hw a80 (3 : Int32) al 3 nn (own_o (own_o (own_o (own_g p8) ka ((1 : Int64) <<< (xa.toInt32 &&& 0x3f).toInt64)) kb ((1 : Int64) <<< (xb.toInt32 &&& 0x3f).toInt64)) kc ((1 : Int64) <<< (xc.toInt32 &&& 0x3f).toInt64)) h83 E_a80 F_words_a80 V_al rfl (by rw [Int32.lt_iff_toInt_lt, hnn] at hc301; have q : (3 : Int32).toInt = 3 := rfl; omega)) E_a80 rfl pd_10 rfl (hst := rfl) (W := 0) (Nat.le_of_eq rfl) (by decide) (by decide) (c2 := 5) (s2 := 49) rfl rfl (by decide) (by decide) rfl rfl (q := 315) rfl ?_
          intro v99 T99 O99 q99
          obtain rfl := q99
          show Go C _ _ _ _ (T99.setTop (mkF C.m 315 #[.val (.int p0), .val (.int p1), .val (.long p2), .second, .val (.long p4), .second, .val (.long p6), .second, .val (.long p8), .second, .val (.long m), .second, .val (.int wc), .val (.long sp), .second, .val (.long xa), .second, .val (.long xb), .second, .val (.long xc), .second, .val (.int (3 : Int32)), .val (.ref a76), .val (.ref a80), .val (.int (1 : Int32))] [(.long ((own_o (own_o (own_o (own_g p8) ka ((1 : Int64) <<< (xa.toInt32 &&& 0x3f).toInt64)) kb ((1 : Int64) <<< (xb.toInt32 &&& 0x3f).toInt64)) kc ((1 : Int64) <<< (xc.toInt32 &&& 0x3f).toInt64)) 3))]))
          refine Jvm.OwnW.iconst O99 at_315 (r := (3 : Int32)) rfl (q := 316) rfl ?_
          refine Jvm.OwnW.lload O99 at_316 rfl (q := 318) rfl ?_
          refine Jvm.OwnW.lload O99 at_318 rfl (q := 320) rfl ?_
          refine Jvm.OwnW.lload O99 at_320 rfl (q := 322) rfl ?_
          refine Jvm.OwnW.lload O99 at_322 rfl (q := 324) rfl ?_
          refine Jvm.OwnW.iload O99 at_324 rfl (q := 326) rfl ?_
          refine Jvm.OwnW.callS0 O99 (y := (⟨"com/example/occupancy/occupancy/cell/internal/BitCellsSetAllPinLaw", "expected", "(IJJJJI)J"⟩ : MethodName)) (argsL := [(.int (3 : Int32)), (.long p8), (.long xa), (.long xb), (.long xc), (.int (3 : Int32))]) (rest := [(.long ((own_o (own_o (own_o (own_g p8) ka ((1 : Int64) <<< (xa.toInt32 &&& 0x3f).toInt64)) kb ((1 : Int64) <<< (xb.toInt32 &&& 0x3f).toInt64)) kc ((1 : Int64) <<< (xc.toInt32 &&& 0x3f).toInt64)) 3))]) at_326 (hw _ (List.mem_of_getElem? (i := 63) rfl)) (hw _ (List.mem_of_getElem? (i := 64) rfl)) (hw _ (List.mem_of_getElem? (i := 65) rfl)) (hw _ (List.mem_of_getElem? (i := 66) rfl)) (by decide) (rm_e l Z a0 hw (3 : Int32) p8 xa xb xc (3 : Int32) h83) rfl pd_11 rfl (hst := rfl) (W := 2) (Nat.le_of_eq rfl) (by decide) (by decide) (c2 := 5) (s2 := 49) rfl rfl (by decide) (by decide) rfl rfl (q := 329) rfl ?_
          intro v100 T100 O100 q100
          obtain rfl := q100
          show Go C _ _ _ _ (T100.setTop (mkF C.m 329 #[.val (.int p0), .val (.int p1), .val (.long p2), .second, .val (.long p4), .second, .val (.long p6), .second, .val (.long p8), .second, .val (.long m), .second, .val (.int wc), .val (.long sp), .second, .val (.long xa), .second, .val (.long xb), .second, .val (.long xc), .second, .val (.int (3 : Int32)), .val (.ref a76), .val (.ref a80), .val (.int (1 : Int32))] [(.long (fn_e (3 : Int32) p8 xa xb xc (3 : Int32))), (.long ((own_o (own_o (own_o (own_g p8) ka ((1 : Int64) <<< (xa.toInt32 &&& 0x3f).toInt64)) kb ((1 : Int64) <<< (xb.toInt32 &&& 0x3f).toInt64)) kc ((1 : Int64) <<< (xc.toInt32 &&& 0x3f).toInt64)) 3))]))
          refine Jvm.OwnW.lcmp O100 at_329 rfl (q := 330) rfl ?_
          refine Jvm.OwnW.ifNo O100 at_330 (teqL (show ((own_o (own_o (own_o (own_g p8) ka ((1 : Int64) <<< (xa.toInt32 &&& 0x3f).toInt64)) kb ((1 : Int64) <<< (xb.toInt32 &&& 0x3f).toInt64)) kc ((1 : Int64) <<< (xc.toInt32 &&& 0x3f).toInt64)) 3) = (fn_e (3 : Int32) p8 xa xb xc (3 : Int32)) from (by have q := own_e3 p8 xa xb xc xan xbn xcn hxan hxbn hxcn (3 : Int32) 3 rfl; (try simp only [hqa, hqb, hqc] at q); exact q))).2 (q := 333) rfl ?_
          refine Jvm.OwnW.iconst O100 at_333 (r := (1 : Int32)) rfl (q := 334) rfl ?_
          refine Jvm.OwnW.goto O100 at_334 (by decide) (q := 338) rfl ?_
          refine Jvm.OwnW.istore O100 at_338 (L' := #[.val (.int p0), .val (.int p1), .val (.long p2), .second, .val (.long p4), .second, .val (.long p6), .second, .val (.long p8), .second, .val (.long m), .second, .val (.int wc), .val (.long sp), .second, .val (.long xa), .second, .val (.long xb), .second, .val (.long xc), .second, .val (.int (3 : Int32)), .val (.ref a76), .val (.ref a80), .val (.int (1 : Int32))]) rfl (q := 340) rfl ?_
          refine Jvm.OwnW.iload O100 at_340 rfl (q := 342) rfl ?_
          exact Jvm.OwnW.retB O100 at_342 rfl (Or.inr rfl) (by decide) (by decide) rfl
        · refine Jvm.OwnW.icmpYes O86 at_301 (flt hc301).2.2.2 (by decide) (q := 340) rfl ?_
          refine Jvm.OwnW.iload O86 at_340 rfl (q := 342) rfl ?_
          exact Jvm.OwnW.retB O86 at_342 rfl (Or.inr rfl) (by decide) (by decide) rfl
set_option maxRecDepth 65536 in
set_option maxHeartbeats 40000000 in
theorem comes_1 {Post : Tables → Env → Array Value → State → Outcome → State → Prop} (hpost : ∀ tb e args s v u, (limb_1_1.after args s (.returned v) u = true ∧ limb_1_2.after args s (.returned v) u = true ∧ True) → FramedW s (.returned v) u (Jvm.fieldLocs frame_1_writes args s ++ Jvm.arrayLocs frame_1_arrays args s ++ Jvm.staticLocs frame_1_statics s) 16 1152 → Post tb e args s (.returned v) u) :
    ArmFor flags0 classFile x code maxLocals ret World_1 tables_1 room_1 Calls_1 rest_1 Pre_1 Post := by
  intro l hfl _ _ p e ha hc hk s m args below hf hA hF happ hP
  obtain ⟨hcalls, hrest, hpre⟩ := hP
  obtain ⟨-, -, -, hnamed, -, -, -, hat⟩ := (Spec.applies_iff hf).mp happ
  obtain ⟨hg, hn⟩ := and_e (Cond.before_iff.mp (show (Jvm.Cond.and given_1 narrow_1).before args s = true from hpre))
  obtain ⟨hn1, hg⟩ := and_e hg
  obtain ⟨w0, w1, w2, w3, w4, w5, rfl⟩ : ∃ w0 w1 w2 w3 w4 w5 : Value, args = #[w0, w1, w2, w3, w4, w5] := by
    have hs : args.size = 6 := by simpa [Cond.value, given_1] using hn1
    obtain ⟨L⟩ := args
    match L, hs with
    | [w0, w1, w2, w3, w4, w5], _ => exact ⟨w0, w1, w2, w3, w4, w5, rfl⟩
  have hw := fun d (hd : d ∈ tables_1) => atoms_spec (ws := Jvm.Cond.code x code maxLocals ret :: tables_1) hat d (List.mem_cons_of_mem _ hd)
  obtain ⟨hg0, hg⟩ := and_e hg
  obtain ⟨i0, e0⟩ := is_v hg0
  obtain rfl : w0 = (.int i0) := Option.some.inj e0
  obtain ⟨hg1, hg⟩ := and_e hg
  obtain ⟨i1, e1⟩ := is_v hg1
  obtain rfl : w1 = (.int i1) := Option.some.inj e1
  obtain ⟨hg2, hg⟩ := and_e hg
  obtain ⟨i2, e2⟩ := isL_v hg2
  obtain rfl : w2 = (.long i2) := Option.some.inj e2
  obtain ⟨hg3, hg⟩ := and_e hg
  obtain ⟨i3, e3⟩ := isL_v hg3
  obtain rfl : w3 = (.long i3) := Option.some.inj e3
  obtain ⟨hg4, hg⟩ := and_e hg
  obtain ⟨i4, e4⟩ := isL_v hg4
  obtain rfl : w4 = (.long i4) := Option.some.inj e4
  obtain ⟨i5, e5⟩ := isL_v hg
  obtain rfl : w5 = (.long i5) := Option.some.inj e5

  obtain ⟨n, o, h1, h2, h3, _, L, rfl, ⟨N, -, -, rfl⟩, hq⟩ := rm_0 l s _ hw tables_1 i0 i1 i2 i3 i4 i5 s.heap  p e ha hc hk s m _ below hf ((Spec.applies_iff_loose hf).mp happ).1 ⟨rfl, State.Warmed39.refl s, rfl⟩ trivial
  refine ⟨n, _, h1, h2, h3, hpost _ _ _ _ _ _ ⟨Cond.after_iff.mpr rfl, Cond.after_iff.mpr (eq_i res_at (Term.int_eval (1)) rfl), trivial⟩ ⟨hq.1, hq.2.1, hq.2.2.1, (hq.2.2.2.sift fun y hy => Or.inr ((N y hy).elim (fun z => nomatch z) id)).mono (by decide) (by decide)⟩⟩
theorem main_1_1 : Claimed_1_1 := comes_1 fun _ _ _ _ _ _ h hF => ⟨h.1, hF⟩
theorem main_1_2 : Claimed_1_2 := comes_1 fun _ _ _ _ _ _ h hF => ⟨h.2.1, hF⟩
end Jvm.Pilot.@@N@@
namespace Jvm.Pilot.@@N@@
open Jvm Jvm.ClassFile Sem Op Lib Jvm.Free Jvm.Stand Jvm.Pilot.@@N@@.Jvm.D
/-! MADE BY PROGRAM (witnessworld.py) out of the Statement's table words and the real class files: 18 classes; the members and pool entries that the words name. The judged class is class 1, her method 1. -/
namespace start1
open Jvm.ClassFile
def u (s : String) : CpInfo := .utf8 (stringToUtf16 s)
/-- a pool by its gaps: so many unusable entries, then the entry; so many at the end -/
def gap : Nat → List CpInfo → List CpInfo
  | 0, r => r
  | n + 1, r => .unusable :: gap n r
def poolList (es : List (Nat × CpInfo)) (last : Nat) : List CpInfo := es.foldr (fun e r => gap e.1 (e.2 :: r)) (gap last [])
def pool (es : List (Nat × CpInfo)) (last : Nat) : Array CpInfo := ⟨poolList es last⟩
def fileOf (pool : Array CpInfo) (this : Nat) (attrs : Array Attribute := #[]) (ms : Array MethodInfo := #[]) (fl : Nat := 33) (sup : Nat := 0) (ifs : Array Nat := #[]) (fds : Array FieldInfo := #[]) : ClassFile where
  minorVersion := 0
  majorVersion := 65
  constantPool := pool
  accessFlags := fl
  thisClass := this
  superClass := sup
  interfaces := ifs
  fields := fds
  methods := ms
  attributes := attrs
def plain (name : String) (sup : Option ClassId) : Class where
  name := name
  kind := .ordinary
  loader := none
  accessFlags := 33
  super := sup
  interfaces := #[]
  cf := none
  fields := #[]
  methods := #[]
  instanceTypes := #[]
  staticTypes := #[]
  resolved := #[]
  callSites := []
  init := .initialized
  statics := none
  mirror := none

def pool0 : Array CpInfo := pool [(5, u "<init>"), (0, u "()V"), (1, .class_ 10), (1, u "java/lang/Object")] 113

def k0c0 : Code := { maxStack := 0, maxLocals := 1, code := object_method_1_code, exceptionTable := #[], attributes := #[] }
def k0m0 : Method := { name := "<init>", desc := "()V", sig := { parameters := [], returnType := none }, accessFlags := 1, code := some k0c0 }
/-- java/lang/Object -/
def k0 : Class := { plain "java/lang/Object" none with
  accessFlags := 33
  interfaces := #[]
  cf := some (fileOf pool0 8 #[] #[{ accessFlags := 1, nameIndex := 5, descriptorIndex := 6, attributes := #[] }] 33 0 #[] #[])
  fields := #[]
  methods := #[k0m0]
  instanceTypes := #[]
  staticTypes := #[]
  resolved := Array.replicate 124 none
  statics := none }

def pool1 : Array CpInfo := pool [(2, .class_ 4), (1, u "java/lang/Object"), (0, u "<init>"), (0, u "()V"), (0, .long 63), (1, .long 64), (1, .long 9223372036854775807), (1, .class_ 14), (0, u "com/example/occupancy/occupancy/cell/internal/BitCells"), (0, .methodref 13 16), (0, .nameAndType 5 17), (0, u "(J)V"), (0, .methodref 13 19), (0, .nameAndType 20 21), (0, u "setWord"), (0, u "(IJ)V"), (0, .methodref 13 23), (0, .nameAndType 24 25), (0, u "setAll"), (0, u "([JI)V"), (0, .methodref 13 27), (0, .nameAndType 28 29), (0, u "wordCount"), (0, u "()J"), (0, .methodref 13 31), (0, .nameAndType 32 33), (0, u "word"), (0, u "(I)J"), (0, .methodref 35 36), (0, .class_ 37), (0, .nameAndType 38 39), (0, u "com/example/occupancy/occupancy/cell/internal/BitCellsSetAllPinLaw"), (0, u "expected"), (0, u "(IJJJJI)J"), (0, .methodref 35 41), (0, .nameAndType 42 43), (0, u "bitFor"), (0, u "(JIZ)J"), (2, u "law"), (0, u "(IIJJJJ)Z")] 5

def k1m0 : Method := { name := "<init>", desc := "()V", sig := { parameters := [], returnType := none }, accessFlags := 1, code := none }
def k1c1 : Code := { maxStack := 12, maxLocals := 25, code := code, exceptionTable := #[], attributes := #[] }
def k1m1 : Method := { name := "law", desc := "(IIJJJJ)Z", sig := { parameters := [.int, .int, .long, .long, .long, .long], returnType := some .boolean }, accessFlags := 9, code := some k1c1 }
def k1c2 : Code := { maxStack := 6, maxLocals := 4, code := method_3_code, exceptionTable := #[], attributes := #[] }
def k1m2 : Method := { name := "bitFor", desc := "(JIZ)J", sig := { parameters := [.long, .int, .boolean], returnType := some .long }, accessFlags := 10, code := some k1c2 }
def k1c3 : Code := { maxStack := 7, maxLocals := 12, code := method_4_code, exceptionTable := #[], attributes := #[] }
def k1m3 : Method := { name := "expected", desc := "(IJJJJI)J", sig := { parameters := [.int, .long, .long, .long, .long, .int], returnType := some .long }, accessFlags := 10, code := some k1c3 }
/-- com/example/occupancy/occupancy/cell/internal/BitCellsSetAllPinLaw -/
def k1 : Class := { plain "com/example/occupancy/occupancy/cell/internal/BitCellsSetAllPinLaw" (some 0) with
  accessFlags := 49
  interfaces := #[]
  cf := some (fileOf pool1 35 #[] #[{ accessFlags := 1, nameIndex := 5, descriptorIndex := 6, attributes := #[] }, { accessFlags := 9, nameIndex := 46, descriptorIndex := 47, attributes := #[] }, { accessFlags := 10, nameIndex := 42, descriptorIndex := 43, attributes := #[] }, { accessFlags := 10, nameIndex := 38, descriptorIndex := 39, attributes := #[] }] 49 2 #[] #[])
  fields := #[]
  methods := #[k1m0, k1m1, k1m2, k1m3]
  instanceTypes := #[]
  staticTypes := #[]
  resolved := Array.replicate 53 none
  statics := none }

def pool2 : Array CpInfo := pool [(1, .class_ 2), (0, u "com/example/occupancy/occupancy/cell/internal/CellArray"), (0, .class_ 4), (0, u "java/lang/Object")] 17

/-- com/example/occupancy/occupancy/cell/internal/CellArray -/
def k2 : Class := { plain "com/example/occupancy/occupancy/cell/internal/CellArray" (some 0) with
  accessFlags := 1537
  interfaces := #[]
  cf := some (fileOf pool2 1 #[] #[] 1537 3 #[] #[])
  fields := #[]
  methods := #[]
  instanceTypes := #[]
  staticTypes := #[]
  resolved := Array.replicate 22 none
  statics := none }

def pool3 : Array CpInfo := pool [(1, .class_ 2), (0, u "com/example/occupancy/occupancy/cell/internal/Words"), (0, .methodref 4 5), (0, .class_ 6), (0, .nameAndType 7 8), (0, u "com/example/occupancy/occupancy/cell/internal/BitCells"), (0, u "checkedCellCount"), (0, u "(J)J"), (0, .methodref 1 10), (0, .nameAndType 11 12), (0, u "forBits"), (0, u "(J)[J"), (0, .methodref 4 14), (0, .nameAndType 15 16), (0, u "<init>"), (0, u "(J[J)V"), (0, .methodref 18 19), (0, .class_ 20), (0, .nameAndType 15 21), (0, u "java/lang/Object"), (0, u "()V"), (0, .fieldref 4 23), (0, .nameAndType 24 25), (0, u "cellCount"), (0, u "J"), (0, .fieldref 4 27), (0, .nameAndType 28 29), (0, u "words"), (0, u "[J"), (76, .long 137438952896), (1, .string 109), (0, u "bit cells"), (0, .methodref 1 111), (0, .nameAndType 112 113), (0, u "checkCellCount"), (0, u "(JJLjava/lang/String;)V"), (0, .class_ 115), (0, u "com/example/occupancy/occupancy/cell/internal/CellArray"), (0, u "MAX_CELLS"), (1, u "(J)V"), (6, u "()J"), (0, u "wordCount"), (9, u "setWord"), (0, u "(IJ)V"), (0, u "word"), (0, u "(I)J"), (0, u "setAll"), (0, u "([JI)V")] 8

def k3c0 : Code := { maxStack := 5, maxLocals := 3, code := prog_2_method_1_code, exceptionTable := #[], attributes := #[] }
def k3m0 : Method := { name := "<init>", desc := "(J)V", sig := { parameters := [.long], returnType := none }, accessFlags := 1, code := some k3c0 }
def k3c1 : Code := { maxStack := 3, maxLocals := 4, code := prog_2_method_2_code, exceptionTable := #[], attributes := #[] }
def k3m1 : Method := { name := "<init>", desc := "(J[J)V", sig := { parameters := [.long, (.array .long)], returnType := none }, accessFlags := 2, code := some k3c1 }
def k3c2 : Code := { maxStack := 2, maxLocals := 1, code := prog_2_method_5_code, exceptionTable := #[], attributes := #[] }
def k3m2 : Method := { name := "wordCount", desc := "()J", sig := { parameters := [], returnType := some .long }, accessFlags := 1, code := some k3c2 }
def k3c3 : Code := { maxStack := 4, maxLocals := 4, code := prog_2_method_11_code, exceptionTable := #[], attributes := #[] }
def k3m3 : Method := { name := "setWord", desc := "(IJ)V", sig := { parameters := [.int, .long], returnType := none }, accessFlags := 0, code := some k3c3 }
def k3c4 : Code := { maxStack := 2, maxLocals := 2, code := prog_2_method_12_code, exceptionTable := #[], attributes := #[] }
def k3m4 : Method := { name := "word", desc := "(I)J", sig := { parameters := [.int], returnType := some .long }, accessFlags := 0, code := some k3c4 }
def k3c5 : Code := { maxStack := 8, maxLocals := 7, code := prog_2_method_13_code, exceptionTable := #[], attributes := #[] }
def k3m5 : Method := { name := "setAll", desc := "([JI)V", sig := { parameters := [(.array .long), .int], returnType := none }, accessFlags := 1, code := some k3c5 }
def k3c6 : Code := { maxStack := 5, maxLocals := 2, code := prog_2_method_21_code, exceptionTable := #[], attributes := #[] }
def k3m6 : Method := { name := "checkedCellCount", desc := "(J)J", sig := { parameters := [.long], returnType := some .long }, accessFlags := 10, code := some k3c6 }
/-- com/example/occupancy/occupancy/cell/internal/BitCells -/
def k3 : Class := { plain "com/example/occupancy/occupancy/cell/internal/BitCells" (some 0) with
  accessFlags := 33
  interfaces := #[2]
  cf := some (fileOf pool3 4 #[] #[{ accessFlags := 1, nameIndex := 15, descriptorIndex := 118, attributes := #[] }, { accessFlags := 2, nameIndex := 15, descriptorIndex := 16, attributes := #[] }, { accessFlags := 1, nameIndex := 126, descriptorIndex := 125, attributes := #[] }, { accessFlags := 0, nameIndex := 136, descriptorIndex := 137, attributes := #[] }, { accessFlags := 0, nameIndex := 138, descriptorIndex := 139, attributes := #[] }, { accessFlags := 1, nameIndex := 140, descriptorIndex := 141, attributes := #[] }, { accessFlags := 10, nameIndex := 7, descriptorIndex := 8, attributes := #[] }] 33 18 #[114] #[{ accessFlags := 25, nameIndex := 116, descriptorIndex := 25, attributes := #[] }, { accessFlags := 18, nameIndex := 24, descriptorIndex := 25, attributes := #[] }, { accessFlags := 18, nameIndex := 28, descriptorIndex := 29, attributes := #[] }])
  fields := #[{ name := "MAX_CELLS", type := .long, accessFlags := 25, slot := 0, constantValue := 0 }, { name := "cellCount", type := .long, accessFlags := 18, slot := 0, constantValue := 0 }, { name := "words", type := (.array .long), accessFlags := 18, slot := 1, constantValue := 0 }]
  methods := #[k3m0, k3m1, k3m2, k3m3, k3m4, k3m5, k3m6]
  instanceTypes := #[.long, (.array .long)]
  staticTypes := #[.long]
  resolved := Array.replicate 150 none
  statics := none }

def pool4 : Array CpInfo := pool [(1, .class_ 2), (0, u "java/io/Serializable"), (0, .class_ 4), (0, u "java/lang/Object")] 2

/-- java/io/Serializable -/
def k4 : Class := { plain "java/io/Serializable" (some 0) with
  accessFlags := 1537
  interfaces := #[]
  cf := some (fileOf pool4 1 #[] #[] 1537 3 #[] #[])
  fields := #[]
  methods := #[]
  instanceTypes := #[]
  staticTypes := #[]
  resolved := Array.replicate 7 none
  statics := none }

def pool5 : Array CpInfo := pool [(1, .class_ 2), (0, u "java/lang/Comparable"), (0, .class_ 4), (0, u "java/lang/Object")] 7

/-- java/lang/Comparable -/
def k5 : Class := { plain "java/lang/Comparable" (some 0) with
  accessFlags := 1537
  interfaces := #[]
  cf := some (fileOf pool5 1 #[] #[] 1537 3 #[] #[])
  fields := #[]
  methods := #[]
  instanceTypes := #[]
  staticTypes := #[]
  resolved := Array.replicate 12 none
  statics := none }

def pool6 : Array CpInfo := pool [(2, .class_ 4), (1, u "java/lang/CharSequence"), (42, .class_ 48), (0, u "java/lang/CharSequence$1CodePointIterator"), (10, .class_ 60), (0, u "java/lang/CharSequence$1CharIterator"), (5, .class_ 67), (0, u "java/lang/Object")] 63

/-- java/lang/CharSequence -/
def k6 : Class := { plain "java/lang/CharSequence" (some 0) with
  accessFlags := 1537
  interfaces := #[]
  cf := some (fileOf pool6 2 #[.nestMembers #[47, 59]] #[] 1537 66 #[] #[])
  fields := #[]
  methods := #[]
  instanceTypes := #[]
  staticTypes := #[]
  resolved := Array.replicate 131 none
  statics := none }

def pool7 : Array CpInfo := pool [(1, .class_ 2), (0, u "java/lang/constant/Constable"), (0, .class_ 4), (0, u "java/lang/Object")] 6

/-- java/lang/constant/Constable -/
def k7 : Class := { plain "java/lang/constant/Constable" (some 0) with
  accessFlags := 1537
  interfaces := #[]
  cf := some (fileOf pool7 1 #[] #[] 1537 3 #[] #[])
  fields := #[]
  methods := #[]
  instanceTypes := #[]
  staticTypes := #[]
  resolved := Array.replicate 11 none
  statics := none }

def pool8 : Array CpInfo := pool [(1, .class_ 2), (0, u "java/lang/constant/ConstantDesc"), (0, .class_ 4), (0, u "java/lang/Object")] 32

/-- java/lang/constant/ConstantDesc -/
def k8 : Class := { plain "java/lang/constant/ConstantDesc" (some 0) with
  accessFlags := 1537
  interfaces := #[]
  cf := some (fileOf pool8 1 #[] #[] 1537 3 #[] #[])
  fields := #[]
  methods := #[]
  instanceTypes := #[]
  staticTypes := #[]
  resolved := Array.replicate 37 none
  statics := none }

def pool9 : Array CpInfo := pool [(2, .class_ 4), (1, u "java/lang/Object"), (0, u "<init>"), (0, u "()V"), (3, .class_ 12), (1, u "java/lang/String"), (0, u "value"), (0, u "[B"), (2, u "coder"), (0, u "B"), (2, u "hash"), (0, u "I"), (2, u "hashIsZero"), (0, u "Z"), (13, u "COMPACT_STRINGS"), (534, .class_ 576), (0, u "java/lang/CharSequence"), (22, u "CASE_INSENSITIVE_ORDER"), (0, u "Ljava/util/Comparator;"), (500, u "serialPersistentFields"), (0, u "[Ljava/io/ObjectStreamField;"), (0, .class_ 1104), (0, u "java/lang/String$CaseInsensitiveComparator"), (1, .class_ 1107), (0, u "java/io/Serializable"), (0, .class_ 1109), (0, u "java/lang/Comparable"), (0, .class_ 1111), (0, u "java/lang/constant/Constable"), (0, .class_ 1113), (0, u "java/lang/constant/ConstantDesc"), (2, u "serialVersionUID"), (0, u "J"), (3, u "REPL"), (0, u "C"), (2, u "LATIN1"), (1, u "UTF16")] 323

def k9m0 : Method := { name := "<init>", desc := "()V", sig := { parameters := [], returnType := none }, accessFlags := 1, code := none }
/-- java/lang/String -/
def k9 : Class := { plain "java/lang/String" (some 0) with
  accessFlags := 49
  interfaces := #[4, 5, 6, 7, 8]
  cf := some (fileOf pool9 10 #[.nestMembers #[1103]] #[{ accessFlags := 1, nameIndex := 5, descriptorIndex := 6, attributes := #[] }] 49 2 #[1106, 1108, 575, 1110, 1112] #[{ accessFlags := 18, nameIndex := 13, descriptorIndex := 14, attributes := #[] }, { accessFlags := 18, nameIndex := 17, descriptorIndex := 18, attributes := #[] }, { accessFlags := 2, nameIndex := 21, descriptorIndex := 22, attributes := #[] }, { accessFlags := 2, nameIndex := 25, descriptorIndex := 26, attributes := #[] }, { accessFlags := 26, nameIndex := 1116, descriptorIndex := 1117, attributes := #[] }, { accessFlags := 24, nameIndex := 40, descriptorIndex := 26, attributes := #[] }, { accessFlags := 26, nameIndex := 1101, descriptorIndex := 1102, attributes := #[] }, { accessFlags := 26, nameIndex := 1121, descriptorIndex := 1122, attributes := #[] }, { accessFlags := 25, nameIndex := 599, descriptorIndex := 600, attributes := #[] }, { accessFlags := 24, nameIndex := 1125, descriptorIndex := 18, attributes := #[] }, { accessFlags := 24, nameIndex := 1127, descriptorIndex := 18, attributes := #[] }])
  fields := #[{ name := "value", type := (.array .byte), accessFlags := 18, slot := 0, constantValue := 0 }, { name := "coder", type := .byte, accessFlags := 18, slot := 1, constantValue := 0 }, { name := "hash", type := .int, accessFlags := 2, slot := 2, constantValue := 0 }, { name := "hashIsZero", type := .boolean, accessFlags := 2, slot := 3, constantValue := 0 }, { name := "serialVersionUID", type := .long, accessFlags := 26, slot := 0, constantValue := 0 }, { name := "COMPACT_STRINGS", type := .boolean, accessFlags := 24, slot := 1, constantValue := 0 }, { name := "serialPersistentFields", type := (.array (.object "java/io/ObjectStreamField")), accessFlags := 26, slot := 2, constantValue := 0 }, { name := "REPL", type := .char, accessFlags := 26, slot := 3, constantValue := 0 }, { name := "CASE_INSENSITIVE_ORDER", type := (.object "java/util/Comparator"), accessFlags := 25, slot := 4, constantValue := 0 }, { name := "LATIN1", type := .byte, accessFlags := 24, slot := 5, constantValue := 0 }, { name := "UTF16", type := .byte, accessFlags := 24, slot := 6, constantValue := 0 }]
  methods := #[k9m0]
  instanceTypes := #[(.array .byte), .byte, .int, .boolean]
  staticTypes := #[.long, .boolean, (.array (.object "java/io/ObjectStreamField")), .char, (.object "java/util/Comparator"), .byte, .byte]
  resolved := Array.replicate 1451 none
  statics := none }

def pool10 : Array CpInfo := pool [(4, .class_ 6), (1, u "java/lang/Object"), (0, u "<init>"), (0, u "()V"), (9, .methodref 19 20), (0, .class_ 21), (0, .nameAndType 22 23), (0, u "com/example/occupancy/occupancy/cell/internal/Words"), (0, u "wordCountOf"), (0, u "(J)I"), (89, .long 63), (20, u "WORD"), (0, u "Ljava/lang/invoke/VarHandle;"), (0, u "MAX_WORDS"), (0, u "I"), (2, u "CHUNK_WORDS"), (3, u "checkCellCount"), (0, u "(JJLjava/lang/String;)V"), (1, u "forBits"), (0, u "(J)[J")] 24

def k10m0 : Method := { name := "<init>", desc := "()V", sig := { parameters := [], returnType := none }, accessFlags := 2, code := none }
def k10c1 : Code := { maxStack := 7, maxLocals := 5, code := prog_9_method_2_code, exceptionTable := #[], attributes := #[] }
def k10m1 : Method := { name := "checkCellCount", desc := "(JJLjava/lang/String;)V", sig := { parameters := [.long, .long, (.object "java/lang/String")], returnType := none }, accessFlags := 8, code := some k10c1 }
def k10c2 : Code := { maxStack := 2, maxLocals := 2, code := prog_9_method_3_code, exceptionTable := #[], attributes := #[] }
def k10m2 : Method := { name := "forBits", desc := "(J)[J", sig := { parameters := [.long], returnType := some (.array .long) }, accessFlags := 8, code := some k10c2 }
def k10c3 : Code := { maxStack := 4, maxLocals := 2, code := prog_9_method_7_code, exceptionTable := #[], attributes := #[] }
def k10m3 : Method := { name := "wordCountOf", desc := "(J)I", sig := { parameters := [.long], returnType := some .int }, accessFlags := 10, code := some k10c3 }
/-- com/example/occupancy/occupancy/cell/internal/Words -/
def k10 : Class := { plain "com/example/occupancy/occupancy/cell/internal/Words" (some 0) with
  accessFlags := 33
  interfaces := #[]
  cf := some (fileOf pool10 19 #[] #[{ accessFlags := 2, nameIndex := 7, descriptorIndex := 8, attributes := #[] }, { accessFlags := 8, nameIndex := 144, descriptorIndex := 145, attributes := #[] }, { accessFlags := 8, nameIndex := 147, descriptorIndex := 148, attributes := #[] }, { accessFlags := 10, nameIndex := 22, descriptorIndex := 23, attributes := #[] }] 33 4 #[] #[{ accessFlags := 25, nameIndex := 136, descriptorIndex := 137, attributes := #[] }, { accessFlags := 24, nameIndex := 134, descriptorIndex := 135, attributes := #[] }, { accessFlags := 26, nameIndex := 140, descriptorIndex := 137, attributes := #[] }])
  fields := #[{ name := "MAX_WORDS", type := .int, accessFlags := 25, slot := 0, constantValue := 0 }, { name := "WORD", type := (.object "java/lang/invoke/VarHandle"), accessFlags := 24, slot := 1, constantValue := 0 }, { name := "CHUNK_WORDS", type := .int, accessFlags := 26, slot := 2, constantValue := 0 }]
  methods := #[k10m0, k10m1, k10m2, k10m3]
  instanceTypes := #[]
  staticTypes := #[.int, (.object "java/lang/invoke/VarHandle"), .int]
  resolved := Array.replicate 173 none
  statics := none }

def pool11 : Array CpInfo := pool [(1, u "java/lang/Cloneable"), (0, .class_ 1), (0, u "java/lang/Object"), (0, .class_ 3)] 3

/-- java/lang/Cloneable -/
def k11 : Class := { plain "java/lang/Cloneable" (some 0) with
  accessFlags := 1537
  interfaces := #[]
  cf := some (fileOf pool11 2 #[] #[] 1537 4 #[] #[])
  fields := #[]
  methods := #[]
  instanceTypes := #[]
  staticTypes := #[]
  resolved := Array.replicate 8 none
  statics := none }

/-- the primitive byte -/
def k12 : Class := { plain "byte" none with kind := .primitive 'B', accessFlags := 0x411 }
/-- [B -/
def k13 : Class := { plain "[B" (some 0) with kind := .array 12 .byte, interfaces := #[11, 4], accessFlags := 1041 }

/-- the primitive int -/
def k14 : Class := { plain "int" none with kind := .primitive 'I', accessFlags := 0x411 }
/-- [I -/
def k15 : Class := { plain "[I" (some 0) with kind := .array 14 .int, interfaces := #[11, 4], accessFlags := 1041 }

/-- the primitive long -/
def k16 : Class := { plain "long" none with kind := .primitive 'J', accessFlags := 0x411 }
/-- [J -/
def k17 : Class := { plain "[J" (some 0) with kind := .array 16 .long, interfaces := #[11, 4], accessFlags := 1041 }

def heap : Heap := #[]
def classes : Array Class := #[k0, k1, k2, k3, k4, k5, k6, k7, k8, k9, k10, k11, k12, k13, k14, k15, k16, k17]
def interned : List (Array UInt16 × Addr) := []
def slotsUsed : Nat := 0
def theMethod : MethodId := ⟨1, 1⟩
def args0 : Array Value := #[.int 5, .int 7, .long 3, .long 4, .long 6, .long 9]
def aboutOver (below : List Frame) : State where
  vm := { classes := classes, interned := interned.toArray }
  heap := heap
  slotsUsed := slotsUsed
  threads := #[{ frames := .invoking theMethod args0 :: below }]
def below0 : List Frame := [.native { method := ⟨0, 0⟩, args := #[] }]
def about1 : State := aboutOver below0
def p0 : Program := .bare "" "" ""
def e0 : Env := launch0.env 0 0 0
theorem w_frames : about1.frames = Frame.invoking theMethod args0 :: below0 := rfl
set_option maxRecDepth 65536 in
theorem w_args : argsFit about1.vm theMethod args0 = true := by decide +kernel
set_option maxRecDepth 65536 in
theorem w_heap : heapFits about1 = true := by decide +kernel
set_option maxRecDepth 65536 in
theorem w_runnable : about1.curStatus? = some .runnable := by decide +kernel
set_option maxRecDepth 65536 in
theorem w_alone : about1.alone = true := by decide +kernel
set_option maxRecDepth 65536 in
theorem w_named : about1.methodNamed? x = some theMethod := by decide +kernel
set_option maxRecDepth 65536 in
theorem w_hears : about1.hears theMethod below0 = true := by decide +kernel
set_option maxRecDepth 65536 in
theorem w_ripe : about1.ripe theMethod args0 below0 = true := by decide +kernel
theorem w_running : about1.status = .running := rfl
set_option maxRecDepth 65536 in
theorem w_room : about1.hasRoom e0.platform room_1 = true :=
  launch0.hasRoom_least _ room_1 (by decide +kernel) (by decide +kernel) (by decide +kernel) (by decide +kernel) (by decide +kernel) (by decide +kernel)
theorem allAtoms_all (ts : List Jvm.Cond) (a : Array Jvm.Value) (st : Jvm.State) : (allAtoms ts).before a st = ts.all (fun c => c.before a st) := by
  induction ts with
  | nil => rfl
  | cons c t ih =>
    show (Jvm.Cond.and c (allAtoms t)).before a st = _
    rw [Jvm.Cond.before_and, ih, List.all_cons]
def words1 : List Jvm.Cond := Jvm.Cond.code x code maxLocals ret :: tables_1
/-- a 'code' word, met by the world's own term for the bytes: nothing is compared byte by byte -/
theorem code_word {y : MethodName} {bytes : ByteArray} {mx : Nat} {rt : Option FieldType} {a : Array Value} {s : State} {m : MethodId} {meth : Method} {c : Code} (h1 : s.methodNamed? y = some m) (h2 : s.vm.method? m = some meth) (h3 : meth.code = some c) (h4 : c.code = bytes)
    (h5 : (c.maxLocals == mx && c.exceptionTable.isEmpty && decide (c.maxStack ≤ mostOperands) && decide (meth.sig.returnType = rt) && !meth.locks && decide (parseMethodDescriptor y.desc = some meth.sig)) = true) : (Jvm.Cond.code y bytes mx rt).before a s = true := by
  simp only [Bool.and_eq_true, beq_iff_eq, Bool.not_eq_true', decide_eq_true_eq] at h5
  obtain ⟨⟨⟨⟨⟨g1, g2⟩, g3⟩, g4⟩, g5⟩, g6⟩ := h5
  simp [Cond.before, Cond.holds, Cond.value, h1, h2, h3, h4, g1, g2, g3, g4, g5, g6]
def isCode : Jvm.Cond → Bool
  | .code _ _ _ _ => true
  | _ => false
theorem all_split {L : List Jvm.Cond} {P : Jvm.Cond → Bool} (h1 : L.all (fun c => isCode c || P c) = true) (h2 : ∀ c ∈ L.filter isCode, P c = true) : L.all P = true := by
  refine List.all_eq_true.mpr fun c hc => ?_
  have h := List.all_eq_true.mp h1 c hc
  rcases Bool.eq_false_or_eq_true (isCode c) with hi | hi
  · exact h2 c (List.mem_filter.mpr ⟨hc, hi⟩)
  · simpa [hi] using h
set_option maxRecDepth 65536 in
theorem w_c0 : (Jvm.Cond.code x code maxLocals ret).before args0 about1 = true := code_word (m := ⟨1, 1⟩) (meth := k1m1) (c := k1c1) (by decide +kernel) rfl rfl rfl (by decide +kernel)
set_option maxRecDepth 65536 in
theorem w_c1 : (Jvm.Cond.code ({ cls := "com/example/occupancy/occupancy/cell/internal/BitCells", name := "<init>", desc := "(J)V" } : Jvm.MethodName) prog_2_method_1_code (3 : Nat) (Option.none : Option Jvm.ClassFile.FieldType)).before args0 about1 = true := code_word (m := ⟨3, 0⟩) (meth := k3m0) (c := k3c0) (by decide +kernel) rfl rfl rfl (by decide +kernel)
set_option maxRecDepth 65536 in
theorem w_c2 : (Jvm.Cond.code ({ cls := "com/example/occupancy/occupancy/cell/internal/BitCells", name := "checkedCellCount", desc := "(J)J" } : Jvm.MethodName) prog_2_method_21_code (2 : Nat) (Option.some Jvm.ClassFile.FieldType.long)).before args0 about1 = true := code_word (m := ⟨3, 6⟩) (meth := k3m6) (c := k3c6) (by decide +kernel) rfl rfl rfl (by decide +kernel)
set_option maxRecDepth 65536 in
theorem w_c3 : (Jvm.Cond.code ({ cls := "com/example/occupancy/occupancy/cell/internal/Words", name := "checkCellCount", desc := "(JJLjava/lang/String;)V" } : Jvm.MethodName) prog_9_method_2_code (5 : Nat) (Option.none : Option Jvm.ClassFile.FieldType)).before args0 about1 = true := code_word (m := ⟨10, 1⟩) (meth := k10m1) (c := k10c1) (by decide +kernel) rfl rfl rfl (by decide +kernel)
set_option maxRecDepth 65536 in
theorem w_c4 : (Jvm.Cond.code ({ cls := "com/example/occupancy/occupancy/cell/internal/Words", name := "forBits", desc := "(J)[J" } : Jvm.MethodName) prog_9_method_3_code (2 : Nat) (Option.some (Jvm.ClassFile.FieldType.array Jvm.ClassFile.FieldType.long))).before args0 about1 = true := code_word (m := ⟨10, 2⟩) (meth := k10m2) (c := k10c2) (by decide +kernel) rfl rfl rfl (by decide +kernel)
set_option maxRecDepth 65536 in
theorem w_c5 : (Jvm.Cond.code ({ cls := "com/example/occupancy/occupancy/cell/internal/Words", name := "wordCountOf", desc := "(J)I" } : Jvm.MethodName) prog_9_method_7_code (2 : Nat) (Option.some Jvm.ClassFile.FieldType.int)).before args0 about1 = true := code_word (m := ⟨10, 3⟩) (meth := k10m3) (c := k10c3) (by decide +kernel) rfl rfl rfl (by decide +kernel)
set_option maxRecDepth 65536 in
theorem w_c6 : (Jvm.Cond.code ({ cls := "com/example/occupancy/occupancy/cell/internal/BitCells", name := "<init>", desc := "(J[J)V" } : Jvm.MethodName) prog_2_method_2_code (4 : Nat) (Option.none : Option Jvm.ClassFile.FieldType)).before args0 about1 = true := code_word (m := ⟨3, 1⟩) (meth := k3m1) (c := k3c1) (by decide +kernel) rfl rfl rfl (by decide +kernel)
set_option maxRecDepth 65536 in
theorem w_c7 : (Jvm.Cond.code ({ cls := "java/lang/Object", name := "<init>", desc := "()V" } : Jvm.MethodName) object_method_1_code (1 : Nat) (Option.none : Option Jvm.ClassFile.FieldType)).before args0 about1 = true := code_word (m := ⟨0, 0⟩) (meth := k0m0) (c := k0c0) (by decide +kernel) rfl rfl rfl (by decide +kernel)
set_option maxRecDepth 65536 in
theorem w_c8 : (Jvm.Cond.code ({ cls := "com/example/occupancy/occupancy/cell/internal/BitCells", name := "setWord", desc := "(IJ)V" } : Jvm.MethodName) prog_2_method_11_code (4 : Nat) (Option.none : Option Jvm.ClassFile.FieldType)).before args0 about1 = true := code_word (m := ⟨3, 3⟩) (meth := k3m3) (c := k3c3) (by decide +kernel) rfl rfl rfl (by decide +kernel)
set_option maxRecDepth 65536 in
theorem w_c9 : (Jvm.Cond.code ({ cls := "com/example/occupancy/occupancy/cell/internal/BitCells", name := "setAll", desc := "([JI)V" } : Jvm.MethodName) prog_2_method_13_code (7 : Nat) (Option.none : Option Jvm.ClassFile.FieldType)).before args0 about1 = true := code_word (m := ⟨3, 5⟩) (meth := k3m5) (c := k3c5) (by decide +kernel) rfl rfl rfl (by decide +kernel)
set_option maxRecDepth 65536 in
theorem w_c10 : (Jvm.Cond.code ({ cls := "com/example/occupancy/occupancy/cell/internal/BitCells", name := "wordCount", desc := "()J" } : Jvm.MethodName) prog_2_method_5_code (1 : Nat) (Option.some Jvm.ClassFile.FieldType.long)).before args0 about1 = true := code_word (m := ⟨3, 2⟩) (meth := k3m2) (c := k3c2) (by decide +kernel) rfl rfl rfl (by decide +kernel)
set_option maxRecDepth 65536 in
theorem w_c11 : (Jvm.Cond.code ({ cls := "com/example/occupancy/occupancy/cell/internal/BitCells", name := "word", desc := "(I)J" } : Jvm.MethodName) prog_2_method_12_code (2 : Nat) (Option.some Jvm.ClassFile.FieldType.long)).before args0 about1 = true := code_word (m := ⟨3, 4⟩) (meth := k3m4) (c := k3c4) (by decide +kernel) rfl rfl rfl (by decide +kernel)
set_option maxRecDepth 65536 in
theorem w_c12 : (Jvm.Cond.code ({ cls := "com/example/occupancy/occupancy/cell/internal/BitCellsSetAllPinLaw", name := "expected", desc := "(IJJJJI)J" } : Jvm.MethodName) method_4_code (12 : Nat) (Option.some Jvm.ClassFile.FieldType.long)).before args0 about1 = true := code_word (m := ⟨1, 3⟩) (meth := k1m3) (c := k1c3) (by decide +kernel) rfl rfl rfl (by decide +kernel)
set_option maxRecDepth 65536 in
theorem w_c13 : (Jvm.Cond.code ({ cls := "com/example/occupancy/occupancy/cell/internal/BitCellsSetAllPinLaw", name := "bitFor", desc := "(JIZ)J" } : Jvm.MethodName) method_3_code (4 : Nat) (Option.some Jvm.ClassFile.FieldType.long)).before args0 about1 = true := code_word (m := ⟨1, 2⟩) (meth := k1m2) (c := k1c2) (by decide +kernel) rfl rfl rfl (by decide +kernel)
def codes1 : List Jvm.Cond := [Jvm.Cond.code x code maxLocals ret, Jvm.Cond.code ({ cls := "com/example/occupancy/occupancy/cell/internal/BitCells", name := "<init>", desc := "(J)V" } : Jvm.MethodName) prog_2_method_1_code (3 : Nat) (Option.none : Option Jvm.ClassFile.FieldType), Jvm.Cond.code ({ cls := "com/example/occupancy/occupancy/cell/internal/BitCells", name := "checkedCellCount", desc := "(J)J" } : Jvm.MethodName) prog_2_method_21_code (2 : Nat) (Option.some Jvm.ClassFile.FieldType.long), Jvm.Cond.code ({ cls := "com/example/occupancy/occupancy/cell/internal/Words", name := "checkCellCount", desc := "(JJLjava/lang/String;)V" } : Jvm.MethodName) prog_9_method_2_code (5 : Nat) (Option.none : Option Jvm.ClassFile.FieldType), Jvm.Cond.code ({ cls := "com/example/occupancy/occupancy/cell/internal/Words", name := "forBits", desc := "(J)[J" } : Jvm.MethodName) prog_9_method_3_code (2 : Nat) (Option.some (Jvm.ClassFile.FieldType.array Jvm.ClassFile.FieldType.long)), Jvm.Cond.code ({ cls := "com/example/occupancy/occupancy/cell/internal/Words", name := "wordCountOf", desc := "(J)I" } : Jvm.MethodName) prog_9_method_7_code (2 : Nat) (Option.some Jvm.ClassFile.FieldType.int), Jvm.Cond.code ({ cls := "com/example/occupancy/occupancy/cell/internal/BitCells", name := "<init>", desc := "(J[J)V" } : Jvm.MethodName) prog_2_method_2_code (4 : Nat) (Option.none : Option Jvm.ClassFile.FieldType), Jvm.Cond.code ({ cls := "java/lang/Object", name := "<init>", desc := "()V" } : Jvm.MethodName) object_method_1_code (1 : Nat) (Option.none : Option Jvm.ClassFile.FieldType), Jvm.Cond.code ({ cls := "com/example/occupancy/occupancy/cell/internal/BitCells", name := "setWord", desc := "(IJ)V" } : Jvm.MethodName) prog_2_method_11_code (4 : Nat) (Option.none : Option Jvm.ClassFile.FieldType), Jvm.Cond.code ({ cls := "com/example/occupancy/occupancy/cell/internal/BitCells", name := "setAll", desc := "([JI)V" } : Jvm.MethodName) prog_2_method_13_code (7 : Nat) (Option.none : Option Jvm.ClassFile.FieldType), Jvm.Cond.code ({ cls := "com/example/occupancy/occupancy/cell/internal/BitCells", name := "wordCount", desc := "()J" } : Jvm.MethodName) prog_2_method_5_code (1 : Nat) (Option.some Jvm.ClassFile.FieldType.long), Jvm.Cond.code ({ cls := "com/example/occupancy/occupancy/cell/internal/BitCells", name := "word", desc := "(I)J" } : Jvm.MethodName) prog_2_method_12_code (2 : Nat) (Option.some Jvm.ClassFile.FieldType.long), Jvm.Cond.code ({ cls := "com/example/occupancy/occupancy/cell/internal/BitCellsSetAllPinLaw", name := "expected", desc := "(IJJJJI)J" } : Jvm.MethodName) method_4_code (12 : Nat) (Option.some Jvm.ClassFile.FieldType.long), Jvm.Cond.code ({ cls := "com/example/occupancy/occupancy/cell/internal/BitCellsSetAllPinLaw", name := "bitFor", desc := "(JIZ)J" } : Jvm.MethodName) method_3_code (4 : Nat) (Option.some Jvm.ClassFile.FieldType.long)]
set_option maxRecDepth 65536 in
theorem codes_eq : words1.filter isCode = codes1 := rfl
theorem w_codes : ∀ c ∈ words1.filter isCode, c.before args0 about1 = true := by
  rw [codes_eq]
  intro c hc
  simp only [codes1, List.mem_cons, List.not_mem_nil, or_false] at hc
  rcases hc with rfl | rfl | rfl | rfl | rfl | rfl | rfl | rfl | rfl | rfl | rfl | rfl | rfl | rfl
  · exact w_c0
  · exact w_c1
  · exact w_c2
  · exact w_c3
  · exact w_c4
  · exact w_c5
  · exact w_c6
  · exact w_c7
  · exact w_c8
  · exact w_c9
  · exact w_c10
  · exact w_c11
  · exact w_c12
  · exact w_c13
set_option maxRecDepth 65536 in
theorem w_t1 : (words1.take 24).all (fun c => isCode c || c.before args0 about1) = true := by decide +kernel
set_option maxRecDepth 65536 in
theorem w_t2 : ((words1.drop 24).take 24).all (fun c => isCode c || c.before args0 about1) = true := by decide +kernel
set_option maxRecDepth 65536 in
theorem w_t3 : ((words1.drop 24).drop 24).all (fun c => isCode c || c.before args0 about1) = true := by decide +kernel
theorem w_tables : (allAtoms (Jvm.Cond.code x code maxLocals ret :: tables_1)).before args0 about1 = true := by
  rw [allAtoms_all]
  show words1.all (fun c => c.before args0 about1) = true
  refine all_split ?_ w_codes
  rw [← List.take_append_drop 24 words1, List.all_append, w_t1, ← List.take_append_drop 24 (words1.drop 24), List.all_append, w_t2, w_t3]
  rfl
set_option maxRecDepth 65536 in
theorem w_case : (Jvm.Cond.and given_1 narrow_1).before args0 about1 = true := by decide +kernel
theorem w_applies : (headSpec (Jvm.Cond.code x code maxLocals ret :: tables_1) room_1).applies x e0.platform about1 = true :=
  (Spec.applies_iff w_frames).mpr ⟨w_running, w_runnable, w_alone, w_named, w_hears, w_ripe, w_room, w_tables⟩
theorem atStart : AtStart classFile x code maxLocals ret World_1 tables_1 room_1 Calls_1 rest_1 Pre_1 launch0 p0 e0 about1 theMethod args0 below0 :=
  ⟨lists_1, trivial, launch0.admits_env _ _ _, launch0.least_env, fairChoices_fair.cas, fairChoices_fair.clock, w_frames, w_args, w_heap, w_applies, trivial, trivial, w_case⟩
end start1
theorem witness_1 : WitnessClaimed_1 := ⟨start1.p0, start1.e0, start1.about1, start1.theMethod, start1.args0, start1.below0, start1.atStart⟩
end Jvm.Pilot.@@N@@
