import JvmDerived
import JvmDerived.Pilot.@@N@@Statement
import JvmDerived.Pilot.@@N@@Code
set_option linter.unusedVariables false
set_option linter.unusedSimpArgs false
namespace Jvm.OwnK
open Sem ClassFile Op Lib Jvm.Stand Jvm.Free Jvm.LawKit Jvm.RoadKit
/-! a walk's surroundings: program, launch, environment, room, state at the call, method, arguments, frames below, the method's record and code -/
abbrev Cx : Type := Program × Launch × Env × Room × State × MethodId × Array Value × List Frame × Method × Code × State × List (String × Nat)
abbrev Cx.p (Γ : Cx) : Program := Γ.1
abbrev Cx.l (Γ : Cx) : Launch := Γ.2.1
abbrev Cx.e (Γ : Cx) : Env := Γ.2.2.1
abbrev Cx.R (Γ : Cx) : Room := Γ.2.2.2.1
abbrev Cx.s (Γ : Cx) : State := Γ.2.2.2.2.1
abbrev Cx.m (Γ : Cx) : MethodId := Γ.2.2.2.2.2.1
abbrev Cx.args (Γ : Cx) : Array Value := Γ.2.2.2.2.2.2.1
abbrev Cx.below (Γ : Cx) : List Frame := Γ.2.2.2.2.2.2.2.1
abbrev Cx.meth (Γ : Cx) : Method := Γ.2.2.2.2.2.2.2.2.1
abbrev Cx.c (Γ : Cx) : Code := Γ.2.2.2.2.2.2.2.2.2.1
abbrev Cx.Z (Γ : Cx) : State := Γ.2.2.2.2.2.2.2.2.2.2.1
abbrev Cx.EL (Γ : Cx) : List (String × Nat) := Γ.2.2.2.2.2.2.2.2.2.2.2
/-- the booked constants stand since the start, and the addresses of sf are none of theirs -/
def Hd (Γ : Cx) (vm : Vm) (h : Heap) (sf : List Addr) : Prop := CHr Γ.Z Γ.EL Γ.s.vm Γ.s.heap vm h ∧ ∀ x ∈ sf, x < h.size ∧ Safe Γ.Z Γ.EL vm h x
section HdS
variable {Γ : Cx} {vm : Vm} {h h' : Heap} {sf : List Addr}
theorem Hd.more (H : Hd Γ vm h sf) (E : Ext h h') : Hd Γ vm h' sf := ⟨H.1.trans (CHr.ext E H.1.1), fun x hx => ⟨Nat.lt_of_lt_of_le (H.2 x hx).1 E.1, (H.2 x hx).2.ext E H.1.1⟩⟩
theorem Hd.new (H : Hd Γ vm h sf) (E : Ext h h') (lt : h.size < h'.size) : Hd Γ vm h' (h.size :: sf) := ⟨(H.more E).1, fun x hx => by
  rcases List.mem_cons.mp hx with rfl | hx
  · exact ⟨lt, (Safe.new (Nat.le_refl _)).ext E H.1.1⟩
  · exact (H.more E).2 x hx⟩
theorem Hd.wr {a : Addr} {sl : Nat} {v : Value} (H : Hd Γ vm h sf) (W : Wr h h' a sl v) (ms : a ∈ sf) : Hd Γ vm h' sf := ⟨H.1.trans (CHr.wr W (H.2 a ms).2 H.1.1), fun x hx => ⟨by rw [W.size]; exact (H.2 x hx).1, Safe.wr W (H.2 a ms).2 H.1.1 (H.2 x hx).2⟩⟩
theorem Hd.keep {a : Addr} (H : Hd Γ vm h sf) (K : Keep h h' [a]) (ms : a ∈ sf) : Hd Γ vm h' sf := ⟨H.1.trans (CHr.keep K (fun x hx => by rw [List.mem_singleton.mp hx]; exact (H.2 a ms).2) H.1.1), fun x hx => ⟨Nat.lt_of_lt_of_le (H.2 x hx).1 K.1, (H.2 x hx).2.keep K (fun x hx => by rw [List.mem_singleton.mp hx]; exact (H.2 a ms).2) H.1.1⟩⟩
end HdS
/-- what stays the same all along a walk -/
def Ctx (Γ : Cx) (Z : State) (EL : List (String × Nat)) (own : String) (bytes : ByteArray) (maxl : Nat) (ret : Option FieldType) (nm : String) (rm : Room) (hs : Heap) : Prop :=
  Γ.p.tables.exec = Jvm.exec ∧ Z.Warmed39 Γ.s.vm ∧ Γ.s.vm.findClass own = some Γ.m.cls ∧ Γ.c.code = bytes ∧ Γ.c.maxLocals = maxl ∧ Γ.meth.sig.returnType = ret ∧ Γ.meth.name = nm ∧ Γ.meth.locks = false ∧ Γ.R = rm ∧ Γ.s.heap = hs ∧ Γ.Z = Z ∧ Γ.EL = EL ∧ ∃ a0, EW Z a0 EL
/-- where the walk stands: the state T with the heap h; at most C cells and S slots made; what was written lies in cells made since the law began -/
def W (Γ : Cx) (n0 : Nat) (T : State) (h : Heap) (C S : Nat) (sf : List Addr) : Prop := ∃ locs vm0 k0, Stand Γ.p Γ.l Γ.e Γ.R (Γ.s.setVm vm0) Γ.m Γ.args Γ.below Γ.meth Γ.c T locs C S ∧ T.heap = h ∧ Fr n0 locs ∧ Γ.s.Since vm0 k0 ∧ k0 ≤ h.size ∧ Hd Γ vm0 h sf
/-- from here the run comes to the method's end with what Q says -/
def Go (Γ : Cx) (n0 : Nat) (Q : Option Value → Heap → List Addr → Prop) (T : State) (f : JFrame) : Prop :=
  ∃ s₂ o, Steps Γ.p.tables Γ.e Γ.below (T.setTop f) s₂ ∧ s₂.status = .running ∧ Ended s₂ Γ.below o ∧ ∃ v L, o = .returned v ∧ ((∃ sf', Q v s₂.heap sf' ∧ ∀ x ∈ sf', x < s₂.heap.size ∧ Safe Γ.Z Γ.EL s₂.vm s₂.heap x) ∧ Fr n0 L) ∧ CHr Γ.Z Γ.EL Γ.s.vm Γ.s.heap s₂.vm s₂.heap ∧ ReturnedEndW Γ.s o s₂ L Γ.R.cells Γ.R.slots
/-- a body's contract: called with these arguments at this heap it returns with what Q says -/
def MetW (Z : State) (EL : List (String × Nat)) (sf : List Addr) (y : MethodName) (bytes : ByteArray) (maxl : Nat) (ret : Option FieldType) (ws : List Cond) (rm : Room) (as' : Array Value) (h0 : Heap) (n0 : Nat) (Q : Option Value → Heap → List Addr → Prop) : Prop :=
  ∀ l : Launch, MetFree l y (head1 (Cond.code y bytes maxl ret :: ws) rm) (fun a U => a = as' ∧ Z.Warmed39 U.vm ∧ U.heap = h0 ∧ CHv Z EL U.vm h0 ∧ ∀ x ∈ sf, x < h0.size ∧ Safe Z EL U.vm h0 x) (fun _ _ _ _ _ => True) (fun _ U o U' => ∃ v L, o = .returned v ∧ ((∃ sf', Q v U'.heap sf' ∧ ∀ x ∈ sf', x < U'.heap.size ∧ Safe Z EL U'.vm U'.heap x) ∧ Fr n0 L) ∧ CHr Z EL U.vm U.heap U'.vm U'.heap ∧ ReturnedEndW U o U' L rm.cells rm.slots)
abbrev Met (Z : State) (EL : List (String × Nat)) (sf : List Addr) (y : MethodName) (bytes : ByteArray) (maxl : Nat) (ret : Option FieldType) (rm : Room) (as' : Array Value) (h0 : Heap) (n0 : Nat) (Q : Option Value → Heap → List Addr → Prop) : Prop := MetW Z EL sf y bytes maxl ret [] rm as' h0 n0 Q
section K
variable {Γ : Cx} {Z : State} {EL : List (String × Nat)} {sf : List Addr} {own nm : String} {bytes : ByteArray} {maxl : Nat} {ret : Option FieldType} {rm : Room} {n0 : Nat} {T : State} {h hs0 : Heap} {C S : Nat} {Q : Option Value → Heap → List Addr → Prop} {Ls : Array Slot} {st : List Value} {pc pc' : Nat}
theorem k_body {y : MethodName} {ws : List Cond} {as' : Array Value} {f : MethodId → JFrame} (hew : ∃ a0, EW Z a0 EL) (hx : plainFor y = true) (hf : ∀ m, entryFrame m as' maxl = f m)
    (body : ∀ (Γ : Cx) (T : State), Ctx Γ Z EL y.cls bytes maxl ret y.name rm h → W Γ n0 T h 0 0 sf → Go Γ n0 Q T (f Γ.m)) : MetW Z EL sf y bytes maxl ret ws rm as' h n0 Q := by
  intro l
  refine MetFree.of_bodySF (ret := ret) hx hisR ?_
  intro p e s m args below meth c s₁ Bd hml0 hP hK
  obtain ⟨rfl, hZ, hh, hC, hsf⟩ := hP
  subst hh
  have X0 : Stand p l e rm s m args below meth c s₁ [] 0 0 := Stand.of_body Bd
  have e0 : s₁.heap = s.heap := by rw [Bd.state]; rfl
  have g := body (p, l, e, rm, s, m, args, below, meth, c, Z, EL) s₁ ⟨Bd.exec, hZ, findClass_of_methodNamed Bd.named, Bd.bytes, hml0, Bd.returns, (name_of_methodNamed Bd.named Bd.method).1, Bd.notSynchronized, rfl, rfl, rfl, rfl, hew⟩ ⟨[], s.vm, 0, X0, e0, Fr.nil n0, (State.WarmedH.refl s).since 0, Nat.zero_le _, CHr.refl hC, hsf⟩
  rw [← hf] at g
  exact g
theorem Go.of {T' : State} {f f' : JFrame} (k : ∀ target, Steps Γ.p.tables Γ.e Γ.below (T'.setTop f') target → Steps Γ.p.tables Γ.e Γ.below (T.setTop f) target) (K : Go Γ n0 Q T' f') : Go Γ n0 Q T f := by
  obtain ⟨s₂, o, h1, r⟩ := K
  exact ⟨s₂, o, k _ h1, r⟩
theorem Go.mono {Q' : Option Value → Heap → List Addr → Prop} {f : JFrame} (K : Go Γ n0 Q T f) (q : ∀ v h sf, Q v h sf → Q' v h sf) : Go Γ n0 Q' T f := by
  obtain ⟨s₂, o, h1, h2, h3, v, L, h4, ⟨⟨sf', h5, h5'⟩, h6⟩, h7⟩ := K
  exact ⟨s₂, o, h1, h2, h3, v, L, h4, ⟨⟨sf', q _ _ _ h5, h5'⟩, h6⟩, h7⟩
theorem W.more {C' S' : Nat} (X : W Γ n0 T h C S sf) (hc : C ≤ C') (hs : S ≤ S') : W Γ n0 T h C' S' sf := by
  obtain ⟨L, v, k, X, r⟩ := X; exact ⟨L, v, k, X.more hc hs, r⟩
theorem MetW.mono {y : MethodName} {ws : List Cond} {as' : Array Value} {Q' : Option Value → Heap → List Addr → Prop} (M : MetW Z EL sf y bytes maxl ret ws rm as' h n0 Q) (q : ∀ v h sf, Q v h sf → Q' v h sf) : MetW Z EL sf y bytes maxl ret ws rm as' h n0 Q' := by
  intro l p e h1 h2 h3 s m args below hf happ hP hK
  obtain ⟨n, o, a1, a2, a3, v, L, b1, ⟨⟨sf', b2, b2'⟩, b3⟩, b4⟩ := M l p e h1 h2 h3 s m args below hf happ hP hK
  exact ⟨n, o, a1, a2, a3, v, L, b1, ⟨⟨sf', q _ _ _ b2, b2'⟩, b3⟩, b4⟩
/-! ### returns -/
theorem k_retv (G : Ctx Γ Z EL own bytes maxl ret nm rm hs0) (X : W Γ n0 T h C S sf) (hd : decode bytes pc = .ok (.return_, 1)) (hr : ret = none) (q : Q none h sf) (hC : C ≤ rm.cells) (hS : S ≤ rm.slots) : Go Γ n0 Q T (mkF Γ.m pc Ls []) := by
  obtain ⟨hx, hZ, hown, hby, hml, hret, hnm, hlk, hR, hsH, hzz, hel, hew⟩ := G
  subst hzz hel
  obtain ⟨aw, hew⟩ := hew
  obtain ⟨L, vm0, k0, X, e, N, hSi, hk, HD⟩ := X
  subst e
  have e : T.heap = T.heap := rfl
  have AT := CHv.at X (State.Warmed39.trans hZ hSi.1) hew HD.1.1
  obtain ⟨fs, hr', hrun, hended, hE⟩ := X.leaveW hSi (by rw [e]; exact hk) (v := none) (fun _ => rfl) hlk
  subst hr
  refine ⟨_, _, ?_, hrun, hended, none, L, rfl, ⟨⟨sf, ?_, fun x hx' => ⟨(HD.2 x hx').1, AT.safe (HD.2 x hx').1 (HD.2 x hx').2⟩⟩, N⟩, HD.1.trans AT, hE.1, hE.2.1, hE.2.2.1, hE.2.2.2.mono (hR ▸ hC) (hR ▸ hS)⟩
  · exact X.returnOut hx hret (hb hby hd) hr'
  · exact q
theorem k_ret {w : Value} {t : FieldType} {i : Instr} {rest : List Value} (G : Ctx Γ Z EL own bytes maxl ret nm rm hs0) (X : W Γ n0 T h C S sf) (hd : decode bytes pc = .ok (i, 1)) (hr : ret = some t) (hn : narrow t w = w)
    (hi : (i = .ireturn ∧ (t = .int ∨ t = .boolean ∨ t = .byte ∨ t = .char ∨ t = .short) ∧ ∃ z, w = .int z) ∨ (i = .lreturn ∧ t = .long ∧ ∃ z, w = .long z) ∨ (i = .dreturn ∧ t = .double ∧ ∃ z, w = .double z) ∨ (i = .freturn ∧ t = .float ∧ ∃ z, w = .float z) ∨ (i = .areturn ∧ t.isReference = true ∧ w.isRef = true))
    (q : Q (some w) h sf) (hC : C ≤ rm.cells) (hS : S ≤ rm.slots) : Go Γ n0 Q T (mkF Γ.m pc Ls (w :: rest)) := by
  obtain ⟨hx, hZ, hown, hby, hml, hret, hnm, hlk, hR, hsH, hzz, hel, hew⟩ := G
  subst hzz hel
  obtain ⟨aw, hew⟩ := hew
  obtain ⟨L, vm0, k0, X, e, N, hSi, hk, HD⟩ := X
  subst e
  have e : T.heap = T.heap := rfl
  have AT := CHv.at X (State.Warmed39.trans hZ hSi.1) hew HD.1.1
  subst hr
  obtain ⟨fs, hr', hrun, hended, hE⟩ := X.leaveW hSi (by rw [e]; exact hk) (v := some w) (fun h => by rw [hret] at h; cases h) hlk
  refine ⟨_, _, ?_, hrun, hended, some w, L, rfl, ⟨⟨sf, ?_, fun x hx' => ⟨(HD.2 x hx').1, AT.safe (HD.2 x hx').1 (HD.2 x hx').2⟩⟩, N⟩, HD.1.trans AT, hE.1, hE.2.1, hE.2.2.1, hE.2.2.2.mono (hR ▸ hC) (hR ▸ hS)⟩
  · exact retOut X hx hret hn hi (hb hby hd) hr'
  · exact q
theorem k_reti {z : Int32} {rest : List Value} (G : Ctx Γ Z EL own bytes maxl ret nm rm hs0) (X : W Γ n0 T h C S sf) (hd : decode bytes pc = .ok (.ireturn, 1)) (hr : ret = some .int) (q : Q (some (.int z)) h sf) (hC : C ≤ rm.cells) (hS : S ≤ rm.slots) : Go Γ n0 Q T (mkF Γ.m pc Ls (.int z :: rest)) :=
  k_ret G X hd hr rfl (Or.inl ⟨rfl, Or.inl rfl, _, rfl⟩) q hC hS
theorem k_retb {z : Int32} {rest : List Value} {t : FieldType} (G : Ctx Γ Z EL own bytes maxl ret nm rm hs0) (X : W Γ n0 T h C S sf) (hd : decode bytes pc = .ok (.ireturn, 1)) (hr : ret = some t) (ht : t = .int ∨ t = .boolean ∨ t = .byte ∨ t = .char ∨ t = .short) (hn : narrow t (.int z) = .int z) (q : Q (some (.int z)) h sf) (hC : C ≤ rm.cells) (hS : S ≤ rm.slots) : Go Γ n0 Q T (mkF Γ.m pc Ls (.int z :: rest)) :=
  k_ret G X hd hr hn (Or.inl ⟨rfl, ht, _, rfl⟩) q hC hS
theorem k_retl {z : Int64} {rest : List Value} (G : Ctx Γ Z EL own bytes maxl ret nm rm hs0) (X : W Γ n0 T h C S sf) (hd : decode bytes pc = .ok (.lreturn, 1)) (hr : ret = some .long) (q : Q (some (.long z)) h sf) (hC : C ≤ rm.cells) (hS : S ≤ rm.slots) : Go Γ n0 Q T (mkF Γ.m pc Ls (.long z :: rest)) :=
  k_ret G X hd hr rfl (Or.inr (Or.inl ⟨rfl, rfl, _, rfl⟩)) q hC hS
theorem narrow_ref {t : FieldType} {w : Value} (ht : t.isReference = true) : narrow t w = w := by cases t <;> first | (cases ht; done) | (cases w <;> rfl)
theorem k_reta {w : Value} {rest : List Value} {t : FieldType} (G : Ctx Γ Z EL own bytes maxl ret nm rm hs0) (X : W Γ n0 T h C S sf) (hd : decode bytes pc = .ok (.areturn, 1)) (hr : ret = some t) (ht : t.isReference = true) (hv : w.isRef = true) (q : Q (some w) h sf) (hC : C ≤ rm.cells) (hS : S ≤ rm.slots) : Go Γ n0 Q T (mkF Γ.m pc Ls (w :: rest)) :=
  k_ret G X hd hr (narrow_ref ht) (Or.inr (Or.inr (Or.inr (Or.inr ⟨rfl, ht, hv⟩)))) q hC hS
theorem k_iloadN {k : Fin 4} {v : Int32} (G : Ctx Γ Z EL own bytes maxl ret nm rm hs0) (X : W Γ n0 T h C S sf) (hd : decode bytes pc = .ok (.iload_n k, 1)) (hp : pc + 1 = pc') (hl : Ls[k.val]? = some (.val (.int v))) (K : Go Γ n0 Q T (mkF Γ.m pc' Ls (.int v :: st))) : Go Γ n0 Q T (mkF Γ.m pc Ls (st)) := by
  subst hp
  obtain ⟨hx, hZ0, hown0, hby, hml, hret, hnm, hlk, hR, hsH, hzz, hel, hew⟩ := G
  subst hzz hel
  obtain ⟨aw, hew⟩ := hew
  obtain ⟨L, vm0, k0, X, e, N, hS, hk, HD⟩ := X
  have hZ : Γ.Z.Warmed39 (Γ.s.setVm vm0).vm := State.Warmed39.trans hZ0 hS.1
  have hown : (Γ.s.setVm vm0).vm.findClass own = some Γ.m.cls := by rw [show (Γ.s.setVm vm0).vm = vm0 from rfl, hS.1.alike.findClass]; exact hown0
  exact Go.of (fun t k => XS.iloadN X.here hx rfl (hb hby hd) hl k) K
theorem k_iload {k : Nat} {v : Int32} (G : Ctx Γ Z EL own bytes maxl ret nm rm hs0) (X : W Γ n0 T h C S sf) (hd : decode bytes pc = .ok (.iload k, 2)) (hp : pc + 2 = pc') (hl : Ls[k]? = some (.val (.int v))) (K : Go Γ n0 Q T (mkF Γ.m pc' Ls (.int v :: st))) : Go Γ n0 Q T (mkF Γ.m pc Ls (st)) := by
  subst hp
  obtain ⟨hx, hZ0, hown0, hby, hml, hret, hnm, hlk, hR, hsH, hzz, hel, hew⟩ := G
  subst hzz hel
  obtain ⟨aw, hew⟩ := hew
  obtain ⟨L, vm0, k0, X, e, N, hS, hk, HD⟩ := X
  have hZ : Γ.Z.Warmed39 (Γ.s.setVm vm0).vm := State.Warmed39.trans hZ0 hS.1
  have hown : (Γ.s.setVm vm0).vm.findClass own = some Γ.m.cls := by rw [show (Γ.s.setVm vm0).vm = vm0 from rfl, hS.1.alike.findClass]; exact hown0
  exact Go.of (fun t k => XS.iload X.here hx rfl (hb hby hd) hl k) K
theorem k_lloadN {k : Fin 4} {v : Int64} (G : Ctx Γ Z EL own bytes maxl ret nm rm hs0) (X : W Γ n0 T h C S sf) (hd : decode bytes pc = .ok (.lload_n k, 1)) (hp : pc + 1 = pc') (hl : Ls[k.val]? = some (.val (.long v))) (K : Go Γ n0 Q T (mkF Γ.m pc' Ls (.long v :: st))) : Go Γ n0 Q T (mkF Γ.m pc Ls (st)) := by
  subst hp
  obtain ⟨hx, hZ0, hown0, hby, hml, hret, hnm, hlk, hR, hsH, hzz, hel, hew⟩ := G
  subst hzz hel
  obtain ⟨aw, hew⟩ := hew
  obtain ⟨L, vm0, k0, X, e, N, hS, hk, HD⟩ := X
  have hZ : Γ.Z.Warmed39 (Γ.s.setVm vm0).vm := State.Warmed39.trans hZ0 hS.1
  have hown : (Γ.s.setVm vm0).vm.findClass own = some Γ.m.cls := by rw [show (Γ.s.setVm vm0).vm = vm0 from rfl, hS.1.alike.findClass]; exact hown0
  exact Go.of (fun t k => XS.lloadN X.here hx rfl (hb hby hd) hl k) K
theorem k_lload {k : Nat} {v : Int64} (G : Ctx Γ Z EL own bytes maxl ret nm rm hs0) (X : W Γ n0 T h C S sf) (hd : decode bytes pc = .ok (.lload k, 2)) (hp : pc + 2 = pc') (hl : Ls[k]? = some (.val (.long v))) (K : Go Γ n0 Q T (mkF Γ.m pc' Ls (.long v :: st))) : Go Γ n0 Q T (mkF Γ.m pc Ls (st)) := by
  subst hp
  obtain ⟨hx, hZ0, hown0, hby, hml, hret, hnm, hlk, hR, hsH, hzz, hel, hew⟩ := G
  subst hzz hel
  obtain ⟨aw, hew⟩ := hew
  obtain ⟨L, vm0, k0, X, e, N, hS, hk, HD⟩ := X
  have hZ : Γ.Z.Warmed39 (Γ.s.setVm vm0).vm := State.Warmed39.trans hZ0 hS.1
  have hown : (Γ.s.setVm vm0).vm.findClass own = some Γ.m.cls := by rw [show (Γ.s.setVm vm0).vm = vm0 from rfl, hS.1.alike.findClass]; exact hown0
  exact Go.of (fun t k => XS.lload X.here hx rfl (hb hby hd) hl k) K
theorem k_aloadN {k : Fin 4} {v : Value} (G : Ctx Γ Z EL own bytes maxl ret nm rm hs0) (X : W Γ n0 T h C S sf) (hd : decode bytes pc = .ok (.aload_n k, 1)) (hp : pc + 1 = pc') (hl : Ls[k.val]? = some (.val v)) (hv : v.isRef = true) (K : Go Γ n0 Q T (mkF Γ.m pc' Ls (v :: st))) : Go Γ n0 Q T (mkF Γ.m pc Ls (st)) := by
  subst hp
  obtain ⟨hx, hZ0, hown0, hby, hml, hret, hnm, hlk, hR, hsH, hzz, hel, hew⟩ := G
  subst hzz hel
  obtain ⟨aw, hew⟩ := hew
  obtain ⟨L, vm0, k0, X, e, N, hS, hk, HD⟩ := X
  have hZ : Γ.Z.Warmed39 (Γ.s.setVm vm0).vm := State.Warmed39.trans hZ0 hS.1
  have hown : (Γ.s.setVm vm0).vm.findClass own = some Γ.m.cls := by rw [show (Γ.s.setVm vm0).vm = vm0 from rfl, hS.1.alike.findClass]; exact hown0
  exact Go.of (fun t k => XS.aloadN X.here hx rfl (hb hby hd) hl hv k) K
theorem k_aload {k : Nat} {v : Value} (G : Ctx Γ Z EL own bytes maxl ret nm rm hs0) (X : W Γ n0 T h C S sf) (hd : decode bytes pc = .ok (.aload k, 2)) (hp : pc + 2 = pc') (hl : Ls[k]? = some (.val v)) (hv : v.isRef = true) (K : Go Γ n0 Q T (mkF Γ.m pc' Ls (v :: st))) : Go Γ n0 Q T (mkF Γ.m pc Ls (st)) := by
  subst hp
  obtain ⟨hx, hZ0, hown0, hby, hml, hret, hnm, hlk, hR, hsH, hzz, hel, hew⟩ := G
  subst hzz hel
  obtain ⟨aw, hew⟩ := hew
  obtain ⟨L, vm0, k0, X, e, N, hS, hk, HD⟩ := X
  have hZ : Γ.Z.Warmed39 (Γ.s.setVm vm0).vm := State.Warmed39.trans hZ0 hS.1
  have hown : (Γ.s.setVm vm0).vm.findClass own = some Γ.m.cls := by rw [show (Γ.s.setVm vm0).vm = vm0 from rfl, hS.1.alike.findClass]; exact hown0
  exact Go.of (fun t k => XS.aload X.here hx rfl (hb hby hd) hl hv k) K
theorem k_istoreN {k : Fin 4} {v : Int32} {l' : Array Slot} (G : Ctx Γ Z EL own bytes maxl ret nm rm hs0) (X : W Γ n0 T h C S sf) (hd : decode bytes pc = .ok (.istore_n k, 1)) (hp : pc + 1 = pc') (hl : storeLocals Ls k.val (.int v) = some l') (K : Go Γ n0 Q T (mkF Γ.m pc' l' (st))) : Go Γ n0 Q T (mkF Γ.m pc Ls (.int v :: st)) := by
  subst hp
  obtain ⟨hx, hZ0, hown0, hby, hml, hret, hnm, hlk, hR, hsH, hzz, hel, hew⟩ := G
  subst hzz hel
  obtain ⟨aw, hew⟩ := hew
  obtain ⟨L, vm0, k0, X, e, N, hS, hk, HD⟩ := X
  have hZ : Γ.Z.Warmed39 (Γ.s.setVm vm0).vm := State.Warmed39.trans hZ0 hS.1
  have hown : (Γ.s.setVm vm0).vm.findClass own = some Γ.m.cls := by rw [show (Γ.s.setVm vm0).vm = vm0 from rfl, hS.1.alike.findClass]; exact hown0
  exact Go.of (fun t k => XS.istoreN X.here hx rfl (hb hby hd) rfl hl k) K
theorem k_istore {k : Nat} {v : Int32} {l' : Array Slot} (G : Ctx Γ Z EL own bytes maxl ret nm rm hs0) (X : W Γ n0 T h C S sf) (hd : decode bytes pc = .ok (.istore k, 2)) (hp : pc + 2 = pc') (hl : storeLocals Ls k (.int v) = some l') (K : Go Γ n0 Q T (mkF Γ.m pc' l' (st))) : Go Γ n0 Q T (mkF Γ.m pc Ls (.int v :: st)) := by
  subst hp
  obtain ⟨hx, hZ0, hown0, hby, hml, hret, hnm, hlk, hR, hsH, hzz, hel, hew⟩ := G
  subst hzz hel
  obtain ⟨aw, hew⟩ := hew
  obtain ⟨L, vm0, k0, X, e, N, hS, hk, HD⟩ := X
  have hZ : Γ.Z.Warmed39 (Γ.s.setVm vm0).vm := State.Warmed39.trans hZ0 hS.1
  have hown : (Γ.s.setVm vm0).vm.findClass own = some Γ.m.cls := by rw [show (Γ.s.setVm vm0).vm = vm0 from rfl, hS.1.alike.findClass]; exact hown0
  exact Go.of (fun t k => XS.istore X.here hx rfl (hb hby hd) rfl hl k) K
theorem k_lstoreN {k : Fin 4} {v : Int64} {l' : Array Slot} (G : Ctx Γ Z EL own bytes maxl ret nm rm hs0) (X : W Γ n0 T h C S sf) (hd : decode bytes pc = .ok (.lstore_n k, 1)) (hp : pc + 1 = pc') (hl : storeLocals Ls k.val (.long v) = some l') (K : Go Γ n0 Q T (mkF Γ.m pc' l' (st))) : Go Γ n0 Q T (mkF Γ.m pc Ls (.long v :: st)) := by
  subst hp
  obtain ⟨hx, hZ0, hown0, hby, hml, hret, hnm, hlk, hR, hsH, hzz, hel, hew⟩ := G
  subst hzz hel
  obtain ⟨aw, hew⟩ := hew
  obtain ⟨L, vm0, k0, X, e, N, hS, hk, HD⟩ := X
  have hZ : Γ.Z.Warmed39 (Γ.s.setVm vm0).vm := State.Warmed39.trans hZ0 hS.1
  have hown : (Γ.s.setVm vm0).vm.findClass own = some Γ.m.cls := by rw [show (Γ.s.setVm vm0).vm = vm0 from rfl, hS.1.alike.findClass]; exact hown0
  exact Go.of (fun t k => XS.lstoreN X.here hx rfl (hb hby hd) rfl hl k) K
theorem k_lstore {k : Nat} {v : Int64} {l' : Array Slot} (G : Ctx Γ Z EL own bytes maxl ret nm rm hs0) (X : W Γ n0 T h C S sf) (hd : decode bytes pc = .ok (.lstore k, 2)) (hp : pc + 2 = pc') (hl : storeLocals Ls k (.long v) = some l') (K : Go Γ n0 Q T (mkF Γ.m pc' l' (st))) : Go Γ n0 Q T (mkF Γ.m pc Ls (.long v :: st)) := by
  subst hp
  obtain ⟨hx, hZ0, hown0, hby, hml, hret, hnm, hlk, hR, hsH, hzz, hel, hew⟩ := G
  subst hzz hel
  obtain ⟨aw, hew⟩ := hew
  obtain ⟨L, vm0, k0, X, e, N, hS, hk, HD⟩ := X
  have hZ : Γ.Z.Warmed39 (Γ.s.setVm vm0).vm := State.Warmed39.trans hZ0 hS.1
  have hown : (Γ.s.setVm vm0).vm.findClass own = some Γ.m.cls := by rw [show (Γ.s.setVm vm0).vm = vm0 from rfl, hS.1.alike.findClass]; exact hown0
  exact Go.of (fun t k => XS.lstore X.here hx rfl (hb hby hd) rfl hl k) K
theorem k_astoreN {k : Fin 4} {v : Value} {l' : Array Slot} (G : Ctx Γ Z EL own bytes maxl ret nm rm hs0) (X : W Γ n0 T h C S sf) (hd : decode bytes pc = .ok (.astore_n k, 1)) (hp : pc + 1 = pc') (hv : v.isRef = true) (hl : storeLocals Ls k.val v = some l') (K : Go Γ n0 Q T (mkF Γ.m pc' l' (st))) : Go Γ n0 Q T (mkF Γ.m pc Ls (v :: st)) := by
  subst hp
  obtain ⟨hx, hZ0, hown0, hby, hml, hret, hnm, hlk, hR, hsH, hzz, hel, hew⟩ := G
  subst hzz hel
  obtain ⟨aw, hew⟩ := hew
  obtain ⟨L, vm0, k0, X, e, N, hS, hk, HD⟩ := X
  have hZ : Γ.Z.Warmed39 (Γ.s.setVm vm0).vm := State.Warmed39.trans hZ0 hS.1
  have hown : (Γ.s.setVm vm0).vm.findClass own = some Γ.m.cls := by rw [show (Γ.s.setVm vm0).vm = vm0 from rfl, hS.1.alike.findClass]; exact hown0
  exact Go.of (fun t k => XS.astoreN X.here hx rfl (hb hby hd) rfl hv hl k) K
theorem k_astore {k : Nat} {v : Value} {l' : Array Slot} (G : Ctx Γ Z EL own bytes maxl ret nm rm hs0) (X : W Γ n0 T h C S sf) (hd : decode bytes pc = .ok (.astore k, 2)) (hp : pc + 2 = pc') (hv : v.isRef = true) (hl : storeLocals Ls k v = some l') (K : Go Γ n0 Q T (mkF Γ.m pc' l' (st))) : Go Γ n0 Q T (mkF Γ.m pc Ls (v :: st)) := by
  subst hp
  obtain ⟨hx, hZ0, hown0, hby, hml, hret, hnm, hlk, hR, hsH, hzz, hel, hew⟩ := G
  subst hzz hel
  obtain ⟨aw, hew⟩ := hew
  obtain ⟨L, vm0, k0, X, e, N, hS, hk, HD⟩ := X
  have hZ : Γ.Z.Warmed39 (Γ.s.setVm vm0).vm := State.Warmed39.trans hZ0 hS.1
  have hown : (Γ.s.setVm vm0).vm.findClass own = some Γ.m.cls := by rw [show (Γ.s.setVm vm0).vm = vm0 from rfl, hS.1.alike.findClass]; exact hown0
  exact Go.of (fun t k => XS.astore X.here hx rfl (hb hby hd) rfl hv hl k) K
theorem k_iconst {i : Int} {z : Int32} (G : Ctx Γ Z EL own bytes maxl ret nm rm hs0) (X : W Γ n0 T h C S sf) (hd : decode bytes pc = .ok (.iconst i, 1)) (hp : pc + 1 = pc') (hz : Int32.ofInt i = z) (K : Go Γ n0 Q T (mkF Γ.m pc' Ls (.int z :: st))) : Go Γ n0 Q T (mkF Γ.m pc Ls (st)) := by
  subst hp
  obtain ⟨hx, hZ0, hown0, hby, hml, hret, hnm, hlk, hR, hsH, hzz, hel, hew⟩ := G
  subst hzz hel
  obtain ⟨aw, hew⟩ := hew
  obtain ⟨L, vm0, k0, X, e, N, hS, hk, HD⟩ := X
  have hZ : Γ.Z.Warmed39 (Γ.s.setVm vm0).vm := State.Warmed39.trans hZ0 hS.1
  have hown : (Γ.s.setVm vm0).vm.findClass own = some Γ.m.cls := by rw [show (Γ.s.setVm vm0).vm = vm0 from rfl, hS.1.alike.findClass]; exact hown0
  subst hz
  exact Go.of (fun t k => XS.iconst X.here hx rfl (hb hby hd) k) K
theorem k_bipush {i : Int} {z : Int32} (G : Ctx Γ Z EL own bytes maxl ret nm rm hs0) (X : W Γ n0 T h C S sf) (hd : decode bytes pc = .ok (.bipush i, 2)) (hp : pc + 2 = pc') (hz : (Int8.ofInt i).toInt32 = z) (K : Go Γ n0 Q T (mkF Γ.m pc' Ls (.int z :: st))) : Go Γ n0 Q T (mkF Γ.m pc Ls (st)) := by
  subst hp
  obtain ⟨hx, hZ0, hown0, hby, hml, hret, hnm, hlk, hR, hsH, hzz, hel, hew⟩ := G
  subst hzz hel
  obtain ⟨aw, hew⟩ := hew
  obtain ⟨L, vm0, k0, X, e, N, hS, hk, HD⟩ := X
  have hZ : Γ.Z.Warmed39 (Γ.s.setVm vm0).vm := State.Warmed39.trans hZ0 hS.1
  have hown : (Γ.s.setVm vm0).vm.findClass own = some Γ.m.cls := by rw [show (Γ.s.setVm vm0).vm = vm0 from rfl, hS.1.alike.findClass]; exact hown0
  subst hz
  exact Go.of (fun t k => XS.bipush X.here hx rfl (hb hby hd) k) K
theorem k_sipush {i : Int} {z : Int32} (G : Ctx Γ Z EL own bytes maxl ret nm rm hs0) (X : W Γ n0 T h C S sf) (hd : decode bytes pc = .ok (.sipush i, 3)) (hp : pc + 3 = pc') (hz : (Int16.ofInt i).toInt32 = z) (K : Go Γ n0 Q T (mkF Γ.m pc' Ls (.int z :: st))) : Go Γ n0 Q T (mkF Γ.m pc Ls (st)) := by
  subst hp
  obtain ⟨hx, hZ0, hown0, hby, hml, hret, hnm, hlk, hR, hsH, hzz, hel, hew⟩ := G
  subst hzz hel
  obtain ⟨aw, hew⟩ := hew
  obtain ⟨L, vm0, k0, X, e, N, hS, hk, HD⟩ := X
  have hZ : Γ.Z.Warmed39 (Γ.s.setVm vm0).vm := State.Warmed39.trans hZ0 hS.1
  have hown : (Γ.s.setVm vm0).vm.findClass own = some Γ.m.cls := by rw [show (Γ.s.setVm vm0).vm = vm0 from rfl, hS.1.alike.findClass]; exact hown0
  subst hz
  exact Go.of (fun t k => XS.sipush X.here hx rfl (hb hby hd) k) K
theorem k_lconst {i : Fin 2} {z : Int64} (G : Ctx Γ Z EL own bytes maxl ret nm rm hs0) (X : W Γ n0 T h C S sf) (hd : decode bytes pc = .ok (.lconst i, 1)) (hp : pc + 1 = pc') (hz : Int64.ofNat i = z) (K : Go Γ n0 Q T (mkF Γ.m pc' Ls (.long z :: st))) : Go Γ n0 Q T (mkF Γ.m pc Ls (st)) := by
  subst hp
  obtain ⟨hx, hZ0, hown0, hby, hml, hret, hnm, hlk, hR, hsH, hzz, hel, hew⟩ := G
  subst hzz hel
  obtain ⟨aw, hew⟩ := hew
  obtain ⟨L, vm0, k0, X, e, N, hS, hk, HD⟩ := X
  have hZ : Γ.Z.Warmed39 (Γ.s.setVm vm0).vm := State.Warmed39.trans hZ0 hS.1
  have hown : (Γ.s.setVm vm0).vm.findClass own = some Γ.m.cls := by rw [show (Γ.s.setVm vm0).vm = vm0 from rfl, hS.1.alike.findClass]; exact hown0
  subst hz
  exact Go.of (fun t k => XS.lconst X.here hx rfl (hb hby hd) k) K
theorem k_anull  (G : Ctx Γ Z EL own bytes maxl ret nm rm hs0) (X : W Γ n0 T h C S sf) (hd : decode bytes pc = .ok (.aconst_null, 1)) (hp : pc + 1 = pc')  (K : Go Γ n0 Q T (mkF Γ.m pc' Ls (.null :: st))) : Go Γ n0 Q T (mkF Γ.m pc Ls (st)) := by
  subst hp
  obtain ⟨hx, hZ0, hown0, hby, hml, hret, hnm, hlk, hR, hsH, hzz, hel, hew⟩ := G
  subst hzz hel
  obtain ⟨aw, hew⟩ := hew
  obtain ⟨L, vm0, k0, X, e, N, hS, hk, HD⟩ := X
  have hZ : Γ.Z.Warmed39 (Γ.s.setVm vm0).vm := State.Warmed39.trans hZ0 hS.1
  have hown : (Γ.s.setVm vm0).vm.findClass own = some Γ.m.cls := by rw [show (Γ.s.setVm vm0).vm = vm0 from rfl, hS.1.alike.findClass]; exact hown0
  exact Go.of (fun t k => XS.aconstNull X.here hx rfl (hb hby hd) k) K
theorem k_iadd {x y z : Int32} (G : Ctx Γ Z EL own bytes maxl ret nm rm hs0) (X : W Γ n0 T h C S sf) (hd : decode bytes pc = .ok (.iadd, 1)) (hp : pc + 1 = pc') (hz : x + y = z) (K : Go Γ n0 Q T (mkF Γ.m pc' Ls (.int z :: st))) : Go Γ n0 Q T (mkF Γ.m pc Ls (.int y :: .int x :: st)) := by
  subst hp
  obtain ⟨hx, hZ0, hown0, hby, hml, hret, hnm, hlk, hR, hsH, hzz, hel, hew⟩ := G
  subst hzz hel
  obtain ⟨aw, hew⟩ := hew
  obtain ⟨L, vm0, k0, X, e, N, hS, hk, HD⟩ := X
  have hZ : Γ.Z.Warmed39 (Γ.s.setVm vm0).vm := State.Warmed39.trans hZ0 hS.1
  have hown : (Γ.s.setVm vm0).vm.findClass own = some Γ.m.cls := by rw [show (Γ.s.setVm vm0).vm = vm0 from rfl, hS.1.alike.findClass]; exact hown0
  subst hz
  exact Go.of (fun t k => XS.iadd X.here hx rfl (hb hby hd) rfl k) K
theorem k_isub {x y z : Int32} (G : Ctx Γ Z EL own bytes maxl ret nm rm hs0) (X : W Γ n0 T h C S sf) (hd : decode bytes pc = .ok (.isub, 1)) (hp : pc + 1 = pc') (hz : x - y = z) (K : Go Γ n0 Q T (mkF Γ.m pc' Ls (.int z :: st))) : Go Γ n0 Q T (mkF Γ.m pc Ls (.int y :: .int x :: st)) := by
  subst hp
  obtain ⟨hx, hZ0, hown0, hby, hml, hret, hnm, hlk, hR, hsH, hzz, hel, hew⟩ := G
  subst hzz hel
  obtain ⟨aw, hew⟩ := hew
  obtain ⟨L, vm0, k0, X, e, N, hS, hk, HD⟩ := X
  have hZ : Γ.Z.Warmed39 (Γ.s.setVm vm0).vm := State.Warmed39.trans hZ0 hS.1
  have hown : (Γ.s.setVm vm0).vm.findClass own = some Γ.m.cls := by rw [show (Γ.s.setVm vm0).vm = vm0 from rfl, hS.1.alike.findClass]; exact hown0
  subst hz
  exact Go.of (fun t k => XS.isub X.here hx rfl (hb hby hd) rfl k) K
theorem k_imul {x y z : Int32} (G : Ctx Γ Z EL own bytes maxl ret nm rm hs0) (X : W Γ n0 T h C S sf) (hd : decode bytes pc = .ok (.imul, 1)) (hp : pc + 1 = pc') (hz : x * y = z) (K : Go Γ n0 Q T (mkF Γ.m pc' Ls (.int z :: st))) : Go Γ n0 Q T (mkF Γ.m pc Ls (.int y :: .int x :: st)) := by
  subst hp
  obtain ⟨hx, hZ0, hown0, hby, hml, hret, hnm, hlk, hR, hsH, hzz, hel, hew⟩ := G
  subst hzz hel
  obtain ⟨aw, hew⟩ := hew
  obtain ⟨L, vm0, k0, X, e, N, hS, hk, HD⟩ := X
  have hZ : Γ.Z.Warmed39 (Γ.s.setVm vm0).vm := State.Warmed39.trans hZ0 hS.1
  have hown : (Γ.s.setVm vm0).vm.findClass own = some Γ.m.cls := by rw [show (Γ.s.setVm vm0).vm = vm0 from rfl, hS.1.alike.findClass]; exact hown0
  subst hz
  exact Go.of (fun t k => XS.imul X.here hx rfl (hb hby hd) rfl k) K
theorem k_iand {x y z : Int32} (G : Ctx Γ Z EL own bytes maxl ret nm rm hs0) (X : W Γ n0 T h C S sf) (hd : decode bytes pc = .ok (.iand, 1)) (hp : pc + 1 = pc') (hz : x &&& y = z) (K : Go Γ n0 Q T (mkF Γ.m pc' Ls (.int z :: st))) : Go Γ n0 Q T (mkF Γ.m pc Ls (.int y :: .int x :: st)) := by
  subst hp
  obtain ⟨hx, hZ0, hown0, hby, hml, hret, hnm, hlk, hR, hsH, hzz, hel, hew⟩ := G
  subst hzz hel
  obtain ⟨aw, hew⟩ := hew
  obtain ⟨L, vm0, k0, X, e, N, hS, hk, HD⟩ := X
  have hZ : Γ.Z.Warmed39 (Γ.s.setVm vm0).vm := State.Warmed39.trans hZ0 hS.1
  have hown : (Γ.s.setVm vm0).vm.findClass own = some Γ.m.cls := by rw [show (Γ.s.setVm vm0).vm = vm0 from rfl, hS.1.alike.findClass]; exact hown0
  subst hz
  exact Go.of (fun t k => XS.iand X.here hx rfl (hb hby hd) rfl k) K
theorem k_ior {x y z : Int32} (G : Ctx Γ Z EL own bytes maxl ret nm rm hs0) (X : W Γ n0 T h C S sf) (hd : decode bytes pc = .ok (.ior, 1)) (hp : pc + 1 = pc') (hz : x ||| y = z) (K : Go Γ n0 Q T (mkF Γ.m pc' Ls (.int z :: st))) : Go Γ n0 Q T (mkF Γ.m pc Ls (.int y :: .int x :: st)) := by
  subst hp
  obtain ⟨hx, hZ0, hown0, hby, hml, hret, hnm, hlk, hR, hsH, hzz, hel, hew⟩ := G
  subst hzz hel
  obtain ⟨aw, hew⟩ := hew
  obtain ⟨L, vm0, k0, X, e, N, hS, hk, HD⟩ := X
  have hZ : Γ.Z.Warmed39 (Γ.s.setVm vm0).vm := State.Warmed39.trans hZ0 hS.1
  have hown : (Γ.s.setVm vm0).vm.findClass own = some Γ.m.cls := by rw [show (Γ.s.setVm vm0).vm = vm0 from rfl, hS.1.alike.findClass]; exact hown0
  subst hz
  exact Go.of (fun t k => XS.ior X.here hx rfl (hb hby hd) rfl k) K
theorem k_ixor {x y z : Int32} (G : Ctx Γ Z EL own bytes maxl ret nm rm hs0) (X : W Γ n0 T h C S sf) (hd : decode bytes pc = .ok (.ixor, 1)) (hp : pc + 1 = pc') (hz : x ^^^ y = z) (K : Go Γ n0 Q T (mkF Γ.m pc' Ls (.int z :: st))) : Go Γ n0 Q T (mkF Γ.m pc Ls (.int y :: .int x :: st)) := by
  subst hp
  obtain ⟨hx, hZ0, hown0, hby, hml, hret, hnm, hlk, hR, hsH, hzz, hel, hew⟩ := G
  subst hzz hel
  obtain ⟨aw, hew⟩ := hew
  obtain ⟨L, vm0, k0, X, e, N, hS, hk, HD⟩ := X
  have hZ : Γ.Z.Warmed39 (Γ.s.setVm vm0).vm := State.Warmed39.trans hZ0 hS.1
  have hown : (Γ.s.setVm vm0).vm.findClass own = some Γ.m.cls := by rw [show (Γ.s.setVm vm0).vm = vm0 from rfl, hS.1.alike.findClass]; exact hown0
  subst hz
  exact Go.of (fun t k => XS.ixor X.here hx rfl (hb hby hd) rfl k) K
theorem k_ishl {x y z : Int32} (G : Ctx Γ Z EL own bytes maxl ret nm rm hs0) (X : W Γ n0 T h C S sf) (hd : decode bytes pc = .ok (.ishl, 1)) (hp : pc + 1 = pc') (hz : x <<< (y &&& 31) = z) (K : Go Γ n0 Q T (mkF Γ.m pc' Ls (.int z :: st))) : Go Γ n0 Q T (mkF Γ.m pc Ls (.int y :: .int x :: st)) := by
  subst hp
  obtain ⟨hx, hZ0, hown0, hby, hml, hret, hnm, hlk, hR, hsH, hzz, hel, hew⟩ := G
  subst hzz hel
  obtain ⟨aw, hew⟩ := hew
  obtain ⟨L, vm0, k0, X, e, N, hS, hk, HD⟩ := X
  have hZ : Γ.Z.Warmed39 (Γ.s.setVm vm0).vm := State.Warmed39.trans hZ0 hS.1
  have hown : (Γ.s.setVm vm0).vm.findClass own = some Γ.m.cls := by rw [show (Γ.s.setVm vm0).vm = vm0 from rfl, hS.1.alike.findClass]; exact hown0
  subst hz
  exact Go.of (fun t k => XS.ishl X.here hx rfl (hb hby hd) rfl k) K
theorem k_ishr {x y z : Int32} (G : Ctx Γ Z EL own bytes maxl ret nm rm hs0) (X : W Γ n0 T h C S sf) (hd : decode bytes pc = .ok (.ishr, 1)) (hp : pc + 1 = pc') (hz : x >>> (y &&& 31) = z) (K : Go Γ n0 Q T (mkF Γ.m pc' Ls (.int z :: st))) : Go Γ n0 Q T (mkF Γ.m pc Ls (.int y :: .int x :: st)) := by
  subst hp
  obtain ⟨hx, hZ0, hown0, hby, hml, hret, hnm, hlk, hR, hsH, hzz, hel, hew⟩ := G
  subst hzz hel
  obtain ⟨aw, hew⟩ := hew
  obtain ⟨L, vm0, k0, X, e, N, hS, hk, HD⟩ := X
  have hZ : Γ.Z.Warmed39 (Γ.s.setVm vm0).vm := State.Warmed39.trans hZ0 hS.1
  have hown : (Γ.s.setVm vm0).vm.findClass own = some Γ.m.cls := by rw [show (Γ.s.setVm vm0).vm = vm0 from rfl, hS.1.alike.findClass]; exact hown0
  subst hz
  exact Go.of (fun t k => XS.ishr X.here hx rfl (hb hby hd) rfl k) K
theorem k_iushr {x y z : Int32} (G : Ctx Γ Z EL own bytes maxl ret nm rm hs0) (X : W Γ n0 T h C S sf) (hd : decode bytes pc = .ok (.iushr, 1)) (hp : pc + 1 = pc') (hz : (x.toUInt32 >>> (y &&& 31).toUInt32).toInt32 = z) (K : Go Γ n0 Q T (mkF Γ.m pc' Ls (.int z :: st))) : Go Γ n0 Q T (mkF Γ.m pc Ls (.int y :: .int x :: st)) := by
  subst hp
  obtain ⟨hx, hZ0, hown0, hby, hml, hret, hnm, hlk, hR, hsH, hzz, hel, hew⟩ := G
  subst hzz hel
  obtain ⟨aw, hew⟩ := hew
  obtain ⟨L, vm0, k0, X, e, N, hS, hk, HD⟩ := X
  have hZ : Γ.Z.Warmed39 (Γ.s.setVm vm0).vm := State.Warmed39.trans hZ0 hS.1
  have hown : (Γ.s.setVm vm0).vm.findClass own = some Γ.m.cls := by rw [show (Γ.s.setVm vm0).vm = vm0 from rfl, hS.1.alike.findClass]; exact hown0
  subst hz
  exact Go.of (fun t k => XS.iushr X.here hx rfl (hb hby hd) rfl k) K
theorem k_ladd {x y z : Int64} (G : Ctx Γ Z EL own bytes maxl ret nm rm hs0) (X : W Γ n0 T h C S sf) (hd : decode bytes pc = .ok (.ladd, 1)) (hp : pc + 1 = pc') (hz : x + y = z) (K : Go Γ n0 Q T (mkF Γ.m pc' Ls (.long z :: st))) : Go Γ n0 Q T (mkF Γ.m pc Ls (.long y :: .long x :: st)) := by
  subst hp
  obtain ⟨hx, hZ0, hown0, hby, hml, hret, hnm, hlk, hR, hsH, hzz, hel, hew⟩ := G
  subst hzz hel
  obtain ⟨aw, hew⟩ := hew
  obtain ⟨L, vm0, k0, X, e, N, hS, hk, HD⟩ := X
  have hZ : Γ.Z.Warmed39 (Γ.s.setVm vm0).vm := State.Warmed39.trans hZ0 hS.1
  have hown : (Γ.s.setVm vm0).vm.findClass own = some Γ.m.cls := by rw [show (Γ.s.setVm vm0).vm = vm0 from rfl, hS.1.alike.findClass]; exact hown0
  subst hz
  exact Go.of (fun t k => XS.ladd X.here hx rfl (hb hby hd) rfl k) K
theorem k_lsub {x y z : Int64} (G : Ctx Γ Z EL own bytes maxl ret nm rm hs0) (X : W Γ n0 T h C S sf) (hd : decode bytes pc = .ok (.lsub, 1)) (hp : pc + 1 = pc') (hz : x - y = z) (K : Go Γ n0 Q T (mkF Γ.m pc' Ls (.long z :: st))) : Go Γ n0 Q T (mkF Γ.m pc Ls (.long y :: .long x :: st)) := by
  subst hp
  obtain ⟨hx, hZ0, hown0, hby, hml, hret, hnm, hlk, hR, hsH, hzz, hel, hew⟩ := G
  subst hzz hel
  obtain ⟨aw, hew⟩ := hew
  obtain ⟨L, vm0, k0, X, e, N, hS, hk, HD⟩ := X
  have hZ : Γ.Z.Warmed39 (Γ.s.setVm vm0).vm := State.Warmed39.trans hZ0 hS.1
  have hown : (Γ.s.setVm vm0).vm.findClass own = some Γ.m.cls := by rw [show (Γ.s.setVm vm0).vm = vm0 from rfl, hS.1.alike.findClass]; exact hown0
  subst hz
  exact Go.of (fun t k => XS.lsub X.here hx rfl (hb hby hd) rfl k) K
theorem k_lmul {x y z : Int64} (G : Ctx Γ Z EL own bytes maxl ret nm rm hs0) (X : W Γ n0 T h C S sf) (hd : decode bytes pc = .ok (.lmul, 1)) (hp : pc + 1 = pc') (hz : x * y = z) (K : Go Γ n0 Q T (mkF Γ.m pc' Ls (.long z :: st))) : Go Γ n0 Q T (mkF Γ.m pc Ls (.long y :: .long x :: st)) := by
  subst hp
  obtain ⟨hx, hZ0, hown0, hby, hml, hret, hnm, hlk, hR, hsH, hzz, hel, hew⟩ := G
  subst hzz hel
  obtain ⟨aw, hew⟩ := hew
  obtain ⟨L, vm0, k0, X, e, N, hS, hk, HD⟩ := X
  have hZ : Γ.Z.Warmed39 (Γ.s.setVm vm0).vm := State.Warmed39.trans hZ0 hS.1
  have hown : (Γ.s.setVm vm0).vm.findClass own = some Γ.m.cls := by rw [show (Γ.s.setVm vm0).vm = vm0 from rfl, hS.1.alike.findClass]; exact hown0
  subst hz
  exact Go.of (fun t k => XS.lmul X.here hx rfl (hb hby hd) rfl k) K
theorem k_land {x y z : Int64} (G : Ctx Γ Z EL own bytes maxl ret nm rm hs0) (X : W Γ n0 T h C S sf) (hd : decode bytes pc = .ok (.land, 1)) (hp : pc + 1 = pc') (hz : x &&& y = z) (K : Go Γ n0 Q T (mkF Γ.m pc' Ls (.long z :: st))) : Go Γ n0 Q T (mkF Γ.m pc Ls (.long y :: .long x :: st)) := by
  subst hp
  obtain ⟨hx, hZ0, hown0, hby, hml, hret, hnm, hlk, hR, hsH, hzz, hel, hew⟩ := G
  subst hzz hel
  obtain ⟨aw, hew⟩ := hew
  obtain ⟨L, vm0, k0, X, e, N, hS, hk, HD⟩ := X
  have hZ : Γ.Z.Warmed39 (Γ.s.setVm vm0).vm := State.Warmed39.trans hZ0 hS.1
  have hown : (Γ.s.setVm vm0).vm.findClass own = some Γ.m.cls := by rw [show (Γ.s.setVm vm0).vm = vm0 from rfl, hS.1.alike.findClass]; exact hown0
  subst hz
  exact Go.of (fun t k => XS.land X.here hx rfl (hb hby hd) rfl k) K
theorem k_lor {x y z : Int64} (G : Ctx Γ Z EL own bytes maxl ret nm rm hs0) (X : W Γ n0 T h C S sf) (hd : decode bytes pc = .ok (.lor, 1)) (hp : pc + 1 = pc') (hz : x ||| y = z) (K : Go Γ n0 Q T (mkF Γ.m pc' Ls (.long z :: st))) : Go Γ n0 Q T (mkF Γ.m pc Ls (.long y :: .long x :: st)) := by
  subst hp
  obtain ⟨hx, hZ0, hown0, hby, hml, hret, hnm, hlk, hR, hsH, hzz, hel, hew⟩ := G
  subst hzz hel
  obtain ⟨aw, hew⟩ := hew
  obtain ⟨L, vm0, k0, X, e, N, hS, hk, HD⟩ := X
  have hZ : Γ.Z.Warmed39 (Γ.s.setVm vm0).vm := State.Warmed39.trans hZ0 hS.1
  have hown : (Γ.s.setVm vm0).vm.findClass own = some Γ.m.cls := by rw [show (Γ.s.setVm vm0).vm = vm0 from rfl, hS.1.alike.findClass]; exact hown0
  subst hz
  exact Go.of (fun t k => XS.lor X.here hx rfl (hb hby hd) rfl k) K
theorem k_lxor {x y z : Int64} (G : Ctx Γ Z EL own bytes maxl ret nm rm hs0) (X : W Γ n0 T h C S sf) (hd : decode bytes pc = .ok (.lxor, 1)) (hp : pc + 1 = pc') (hz : x ^^^ y = z) (K : Go Γ n0 Q T (mkF Γ.m pc' Ls (.long z :: st))) : Go Γ n0 Q T (mkF Γ.m pc Ls (.long y :: .long x :: st)) := by
  subst hp
  obtain ⟨hx, hZ0, hown0, hby, hml, hret, hnm, hlk, hR, hsH, hzz, hel, hew⟩ := G
  subst hzz hel
  obtain ⟨aw, hew⟩ := hew
  obtain ⟨L, vm0, k0, X, e, N, hS, hk, HD⟩ := X
  have hZ : Γ.Z.Warmed39 (Γ.s.setVm vm0).vm := State.Warmed39.trans hZ0 hS.1
  have hown : (Γ.s.setVm vm0).vm.findClass own = some Γ.m.cls := by rw [show (Γ.s.setVm vm0).vm = vm0 from rfl, hS.1.alike.findClass]; exact hown0
  subst hz
  exact Go.of (fun t k => XS.lxor X.here hx rfl (hb hby hd) rfl k) K
theorem k_lshl {x z : Int64} {y : Int32} (G : Ctx Γ Z EL own bytes maxl ret nm rm hs0) (X : W Γ n0 T h C S sf) (hd : decode bytes pc = .ok (.lshl, 1)) (hp : pc + 1 = pc') (hz : x <<< (y &&& 0x3f).toInt64 = z) (K : Go Γ n0 Q T (mkF Γ.m pc' Ls (.long z :: st))) : Go Γ n0 Q T (mkF Γ.m pc Ls (.int y :: .long x :: st)) := by
  subst hp
  obtain ⟨hx, hZ0, hown0, hby, hml, hret, hnm, hlk, hR, hsH, hzz, hel, hew⟩ := G
  subst hzz hel
  obtain ⟨aw, hew⟩ := hew
  obtain ⟨L, vm0, k0, X, e, N, hS, hk, HD⟩ := X
  have hZ : Γ.Z.Warmed39 (Γ.s.setVm vm0).vm := State.Warmed39.trans hZ0 hS.1
  have hown : (Γ.s.setVm vm0).vm.findClass own = some Γ.m.cls := by rw [show (Γ.s.setVm vm0).vm = vm0 from rfl, hS.1.alike.findClass]; exact hown0
  subst hz
  exact Go.of (fun t k => XS.lshl X.here hx rfl (hb hby hd) rfl k) K
theorem k_lshr {x z : Int64} {y : Int32} (G : Ctx Γ Z EL own bytes maxl ret nm rm hs0) (X : W Γ n0 T h C S sf) (hd : decode bytes pc = .ok (.lshr, 1)) (hp : pc + 1 = pc') (hz : x >>> (y &&& 0x3f).toInt64 = z) (K : Go Γ n0 Q T (mkF Γ.m pc' Ls (.long z :: st))) : Go Γ n0 Q T (mkF Γ.m pc Ls (.int y :: .long x :: st)) := by
  subst hp
  obtain ⟨hx, hZ0, hown0, hby, hml, hret, hnm, hlk, hR, hsH, hzz, hel, hew⟩ := G
  subst hzz hel
  obtain ⟨aw, hew⟩ := hew
  obtain ⟨L, vm0, k0, X, e, N, hS, hk, HD⟩ := X
  have hZ : Γ.Z.Warmed39 (Γ.s.setVm vm0).vm := State.Warmed39.trans hZ0 hS.1
  have hown : (Γ.s.setVm vm0).vm.findClass own = some Γ.m.cls := by rw [show (Γ.s.setVm vm0).vm = vm0 from rfl, hS.1.alike.findClass]; exact hown0
  subst hz
  exact Go.of (fun t k => XS.lshr X.here hx rfl (hb hby hd) rfl k) K
theorem k_lushr {x z : Int64} {y : Int32} (G : Ctx Γ Z EL own bytes maxl ret nm rm hs0) (X : W Γ n0 T h C S sf) (hd : decode bytes pc = .ok (.lushr, 1)) (hp : pc + 1 = pc') (hz : (x.toUInt64 >>> (y &&& 0x3f).toInt64.toUInt64).toInt64 = z) (K : Go Γ n0 Q T (mkF Γ.m pc' Ls (.long z :: st))) : Go Γ n0 Q T (mkF Γ.m pc Ls (.int y :: .long x :: st)) := by
  subst hp
  obtain ⟨hx, hZ0, hown0, hby, hml, hret, hnm, hlk, hR, hsH, hzz, hel, hew⟩ := G
  subst hzz hel
  obtain ⟨aw, hew⟩ := hew
  obtain ⟨L, vm0, k0, X, e, N, hS, hk, HD⟩ := X
  have hZ : Γ.Z.Warmed39 (Γ.s.setVm vm0).vm := State.Warmed39.trans hZ0 hS.1
  have hown : (Γ.s.setVm vm0).vm.findClass own = some Γ.m.cls := by rw [show (Γ.s.setVm vm0).vm = vm0 from rfl, hS.1.alike.findClass]; exact hown0
  subst hz
  exact Go.of (fun t k => XS.lushr X.here hx rfl (hb hby hd) rfl k) K
theorem k_idiv {x y z : Int32} (G : Ctx Γ Z EL own bytes maxl ret nm rm hs0) (X : W Γ n0 T h C S sf) (hd : decode bytes pc = .ok (.idiv, 1)) (hp : pc + 1 = pc') (hy : y ≠ 0) (hz : x / y = z) (K : Go Γ n0 Q T (mkF Γ.m pc' Ls (.int z :: st))) : Go Γ n0 Q T (mkF Γ.m pc Ls (.int y :: .int x :: st)) := by
  subst hp
  obtain ⟨hx, hZ0, hown0, hby, hml, hret, hnm, hlk, hR, hsH, hzz, hel, hew⟩ := G
  subst hzz hel
  obtain ⟨aw, hew⟩ := hew
  obtain ⟨L, vm0, k0, X, e, N, hS, hk, HD⟩ := X
  have hZ : Γ.Z.Warmed39 (Γ.s.setVm vm0).vm := State.Warmed39.trans hZ0 hS.1
  have hown : (Γ.s.setVm vm0).vm.findClass own = some Γ.m.cls := by rw [show (Γ.s.setVm vm0).vm = vm0 from rfl, hS.1.alike.findClass]; exact hown0
  subst hz
  exact Go.of (fun t k => XS.idiv X.here hx rfl (hb hby hd) rfl hy k) K
theorem k_irem {x y z : Int32} (G : Ctx Γ Z EL own bytes maxl ret nm rm hs0) (X : W Γ n0 T h C S sf) (hd : decode bytes pc = .ok (.irem, 1)) (hp : pc + 1 = pc') (hy : y ≠ 0) (hz : x % y = z) (K : Go Γ n0 Q T (mkF Γ.m pc' Ls (.int z :: st))) : Go Γ n0 Q T (mkF Γ.m pc Ls (.int y :: .int x :: st)) := by
  subst hp
  obtain ⟨hx, hZ0, hown0, hby, hml, hret, hnm, hlk, hR, hsH, hzz, hel, hew⟩ := G
  subst hzz hel
  obtain ⟨aw, hew⟩ := hew
  obtain ⟨L, vm0, k0, X, e, N, hS, hk, HD⟩ := X
  have hZ : Γ.Z.Warmed39 (Γ.s.setVm vm0).vm := State.Warmed39.trans hZ0 hS.1
  have hown : (Γ.s.setVm vm0).vm.findClass own = some Γ.m.cls := by rw [show (Γ.s.setVm vm0).vm = vm0 from rfl, hS.1.alike.findClass]; exact hown0
  subst hz
  exact Go.of (fun t k => iremM X hx rfl (hb hby hd) rfl hy k) K
theorem k_ldiv {x y z : Int64} (G : Ctx Γ Z EL own bytes maxl ret nm rm hs0) (X : W Γ n0 T h C S sf) (hd : decode bytes pc = .ok (.ldiv, 1)) (hp : pc + 1 = pc') (hy : y ≠ 0) (hz : x / y = z) (K : Go Γ n0 Q T (mkF Γ.m pc' Ls (.long z :: st))) : Go Γ n0 Q T (mkF Γ.m pc Ls (.long y :: .long x :: st)) := by
  subst hp
  obtain ⟨hx, hZ0, hown0, hby, hml, hret, hnm, hlk, hR, hsH, hzz, hel, hew⟩ := G
  subst hzz hel
  obtain ⟨aw, hew⟩ := hew
  obtain ⟨L, vm0, k0, X, e, N, hS, hk, HD⟩ := X
  have hZ : Γ.Z.Warmed39 (Γ.s.setVm vm0).vm := State.Warmed39.trans hZ0 hS.1
  have hown : (Γ.s.setVm vm0).vm.findClass own = some Γ.m.cls := by rw [show (Γ.s.setVm vm0).vm = vm0 from rfl, hS.1.alike.findClass]; exact hown0
  subst hz
  exact Go.of (fun t k => XS.ldiv X.here hx rfl (hb hby hd) rfl hy k) K
theorem k_lrem {x y z : Int64} (G : Ctx Γ Z EL own bytes maxl ret nm rm hs0) (X : W Γ n0 T h C S sf) (hd : decode bytes pc = .ok (.lrem, 1)) (hp : pc + 1 = pc') (hy : y ≠ 0) (hz : x % y = z) (K : Go Γ n0 Q T (mkF Γ.m pc' Ls (.long z :: st))) : Go Γ n0 Q T (mkF Γ.m pc Ls (.long y :: .long x :: st)) := by
  subst hp
  obtain ⟨hx, hZ0, hown0, hby, hml, hret, hnm, hlk, hR, hsH, hzz, hel, hew⟩ := G
  subst hzz hel
  obtain ⟨aw, hew⟩ := hew
  obtain ⟨L, vm0, k0, X, e, N, hS, hk, HD⟩ := X
  have hZ : Γ.Z.Warmed39 (Γ.s.setVm vm0).vm := State.Warmed39.trans hZ0 hS.1
  have hown : (Γ.s.setVm vm0).vm.findClass own = some Γ.m.cls := by rw [show (Γ.s.setVm vm0).vm = vm0 from rfl, hS.1.alike.findClass]; exact hown0
  subst hz
  rw [← lrem_mod] at K
  exact Go.of (fun t k => XS.lrem X.here hx rfl (hb hby hd) rfl hy k) K
theorem k_lcmp {x y : Int64} {z : Int32} (G : Ctx Γ Z EL own bytes maxl ret nm rm hs0) (X : W Γ n0 T h C S sf) (hd : decode bytes pc = .ok (.lcmp, 1)) (hp : pc + 1 = pc') (hz : (if x > y then (1 : Int32) else if x = y then 0 else -1) = z) (K : Go Γ n0 Q T (mkF Γ.m pc' Ls (.int z :: st))) : Go Γ n0 Q T (mkF Γ.m pc Ls (.long y :: .long x :: st)) := by
  subst hp
  obtain ⟨hx, hZ0, hown0, hby, hml, hret, hnm, hlk, hR, hsH, hzz, hel, hew⟩ := G
  subst hzz hel
  obtain ⟨aw, hew⟩ := hew
  obtain ⟨L, vm0, k0, X, e, N, hS, hk, HD⟩ := X
  have hZ : Γ.Z.Warmed39 (Γ.s.setVm vm0).vm := State.Warmed39.trans hZ0 hS.1
  have hown : (Γ.s.setVm vm0).vm.findClass own = some Γ.m.cls := by rw [show (Γ.s.setVm vm0).vm = vm0 from rfl, hS.1.alike.findClass]; exact hown0
  subst hz
  exact Go.of (fun t k => XS.lcmp X.here hx rfl (hb hby hd) rfl k) K
theorem k_ineg {x : Int32} {z : Int32} (G : Ctx Γ Z EL own bytes maxl ret nm rm hs0) (X : W Γ n0 T h C S sf) (hd : decode bytes pc = .ok (.ineg, 1)) (hp : pc + 1 = pc') (hz : -x = z) (K : Go Γ n0 Q T (mkF Γ.m pc' Ls (.int z :: st))) : Go Γ n0 Q T (mkF Γ.m pc Ls (.int x :: st)) := by
  subst hp
  obtain ⟨hx, hZ0, hown0, hby, hml, hret, hnm, hlk, hR, hsH, hzz, hel, hew⟩ := G
  subst hzz hel
  obtain ⟨aw, hew⟩ := hew
  obtain ⟨L, vm0, k0, X, e, N, hS, hk, HD⟩ := X
  have hZ : Γ.Z.Warmed39 (Γ.s.setVm vm0).vm := State.Warmed39.trans hZ0 hS.1
  have hown : (Γ.s.setVm vm0).vm.findClass own = some Γ.m.cls := by rw [show (Γ.s.setVm vm0).vm = vm0 from rfl, hS.1.alike.findClass]; exact hown0
  subst hz
  exact Go.of (fun t k => XS.ineg X.here hx rfl (hb hby hd) rfl k) K
theorem k_lneg {x : Int64} {z : Int64} (G : Ctx Γ Z EL own bytes maxl ret nm rm hs0) (X : W Γ n0 T h C S sf) (hd : decode bytes pc = .ok (.lneg, 1)) (hp : pc + 1 = pc') (hz : -x = z) (K : Go Γ n0 Q T (mkF Γ.m pc' Ls (.long z :: st))) : Go Γ n0 Q T (mkF Γ.m pc Ls (.long x :: st)) := by
  subst hp
  obtain ⟨hx, hZ0, hown0, hby, hml, hret, hnm, hlk, hR, hsH, hzz, hel, hew⟩ := G
  subst hzz hel
  obtain ⟨aw, hew⟩ := hew
  obtain ⟨L, vm0, k0, X, e, N, hS, hk, HD⟩ := X
  have hZ : Γ.Z.Warmed39 (Γ.s.setVm vm0).vm := State.Warmed39.trans hZ0 hS.1
  have hown : (Γ.s.setVm vm0).vm.findClass own = some Γ.m.cls := by rw [show (Γ.s.setVm vm0).vm = vm0 from rfl, hS.1.alike.findClass]; exact hown0
  subst hz
  exact Go.of (fun t k => XS.lneg X.here hx rfl (hb hby hd) rfl k) K
theorem k_i2l {x : Int32} {z : Int64} (G : Ctx Γ Z EL own bytes maxl ret nm rm hs0) (X : W Γ n0 T h C S sf) (hd : decode bytes pc = .ok (.i2l, 1)) (hp : pc + 1 = pc') (hz : x.toInt64 = z) (K : Go Γ n0 Q T (mkF Γ.m pc' Ls (.long z :: st))) : Go Γ n0 Q T (mkF Γ.m pc Ls (.int x :: st)) := by
  subst hp
  obtain ⟨hx, hZ0, hown0, hby, hml, hret, hnm, hlk, hR, hsH, hzz, hel, hew⟩ := G
  subst hzz hel
  obtain ⟨aw, hew⟩ := hew
  obtain ⟨L, vm0, k0, X, e, N, hS, hk, HD⟩ := X
  have hZ : Γ.Z.Warmed39 (Γ.s.setVm vm0).vm := State.Warmed39.trans hZ0 hS.1
  have hown : (Γ.s.setVm vm0).vm.findClass own = some Γ.m.cls := by rw [show (Γ.s.setVm vm0).vm = vm0 from rfl, hS.1.alike.findClass]; exact hown0
  subst hz
  exact Go.of (fun t k => XS.i2l X.here hx rfl (hb hby hd) rfl k) K
theorem k_l2i {x : Int64} {z : Int32} (G : Ctx Γ Z EL own bytes maxl ret nm rm hs0) (X : W Γ n0 T h C S sf) (hd : decode bytes pc = .ok (.l2i, 1)) (hp : pc + 1 = pc') (hz : x.toInt32 = z) (K : Go Γ n0 Q T (mkF Γ.m pc' Ls (.int z :: st))) : Go Γ n0 Q T (mkF Γ.m pc Ls (.long x :: st)) := by
  subst hp
  obtain ⟨hx, hZ0, hown0, hby, hml, hret, hnm, hlk, hR, hsH, hzz, hel, hew⟩ := G
  subst hzz hel
  obtain ⟨aw, hew⟩ := hew
  obtain ⟨L, vm0, k0, X, e, N, hS, hk, HD⟩ := X
  have hZ : Γ.Z.Warmed39 (Γ.s.setVm vm0).vm := State.Warmed39.trans hZ0 hS.1
  have hown : (Γ.s.setVm vm0).vm.findClass own = some Γ.m.cls := by rw [show (Γ.s.setVm vm0).vm = vm0 from rfl, hS.1.alike.findClass]; exact hown0
  subst hz
  exact Go.of (fun t k => XS.l2i X.here hx rfl (hb hby hd) rfl k) K
theorem k_i2b {x : Int32} {z : Int32} (G : Ctx Γ Z EL own bytes maxl ret nm rm hs0) (X : W Γ n0 T h C S sf) (hd : decode bytes pc = .ok (.i2b, 1)) (hp : pc + 1 = pc') (hz : x.toInt8.toInt32 = z) (K : Go Γ n0 Q T (mkF Γ.m pc' Ls (.int z :: st))) : Go Γ n0 Q T (mkF Γ.m pc Ls (.int x :: st)) := by
  subst hp
  obtain ⟨hx, hZ0, hown0, hby, hml, hret, hnm, hlk, hR, hsH, hzz, hel, hew⟩ := G
  subst hzz hel
  obtain ⟨aw, hew⟩ := hew
  obtain ⟨L, vm0, k0, X, e, N, hS, hk, HD⟩ := X
  have hZ : Γ.Z.Warmed39 (Γ.s.setVm vm0).vm := State.Warmed39.trans hZ0 hS.1
  have hown : (Γ.s.setVm vm0).vm.findClass own = some Γ.m.cls := by rw [show (Γ.s.setVm vm0).vm = vm0 from rfl, hS.1.alike.findClass]; exact hown0
  subst hz
  exact Go.of (fun t k => XS.i2b X.here hx rfl (hb hby hd) rfl k) K
theorem k_i2s {x : Int32} {z : Int32} (G : Ctx Γ Z EL own bytes maxl ret nm rm hs0) (X : W Γ n0 T h C S sf) (hd : decode bytes pc = .ok (.i2s, 1)) (hp : pc + 1 = pc') (hz : x.toInt16.toInt32 = z) (K : Go Γ n0 Q T (mkF Γ.m pc' Ls (.int z :: st))) : Go Γ n0 Q T (mkF Γ.m pc Ls (.int x :: st)) := by
  subst hp
  obtain ⟨hx, hZ0, hown0, hby, hml, hret, hnm, hlk, hR, hsH, hzz, hel, hew⟩ := G
  subst hzz hel
  obtain ⟨aw, hew⟩ := hew
  obtain ⟨L, vm0, k0, X, e, N, hS, hk, HD⟩ := X
  have hZ : Γ.Z.Warmed39 (Γ.s.setVm vm0).vm := State.Warmed39.trans hZ0 hS.1
  have hown : (Γ.s.setVm vm0).vm.findClass own = some Γ.m.cls := by rw [show (Γ.s.setVm vm0).vm = vm0 from rfl, hS.1.alike.findClass]; exact hown0
  subst hz
  exact Go.of (fun t k => XS.i2s X.here hx rfl (hb hby hd) rfl k) K
theorem k_i2c {x : Int32} {z : Int32} (G : Ctx Γ Z EL own bytes maxl ret nm rm hs0) (X : W Γ n0 T h C S sf) (hd : decode bytes pc = .ok (.i2c, 1)) (hp : pc + 1 = pc') (hz : x.toUInt32.toUInt16.toUInt32.toInt32 = z) (K : Go Γ n0 Q T (mkF Γ.m pc' Ls (.int z :: st))) : Go Γ n0 Q T (mkF Γ.m pc Ls (.int x :: st)) := by
  subst hp
  obtain ⟨hx, hZ0, hown0, hby, hml, hret, hnm, hlk, hR, hsH, hzz, hel, hew⟩ := G
  subst hzz hel
  obtain ⟨aw, hew⟩ := hew
  obtain ⟨L, vm0, k0, X, e, N, hS, hk, HD⟩ := X
  have hZ : Γ.Z.Warmed39 (Γ.s.setVm vm0).vm := State.Warmed39.trans hZ0 hS.1
  have hown : (Γ.s.setVm vm0).vm.findClass own = some Γ.m.cls := by rw [show (Γ.s.setVm vm0).vm = vm0 from rfl, hS.1.alike.findClass]; exact hown0
  subst hz
  exact Go.of (fun t k => XS.i2c X.here hx rfl (hb hby hd) rfl k) K
theorem k_pop {x : Value} (G : Ctx Γ Z EL own bytes maxl ret nm rm hs0) (X : W Γ n0 T h C S sf) (hd : decode bytes pc = .ok (.pop, 1)) (hp : pc + 1 = pc') (hc : x.category = 1) (K : Go Γ n0 Q T (mkF Γ.m pc' Ls (st))) : Go Γ n0 Q T (mkF Γ.m pc Ls (x :: st)) := by
  subst hp
  obtain ⟨hx, hZ0, hown0, hby, hml, hret, hnm, hlk, hR, hsH, hzz, hel, hew⟩ := G
  subst hzz hel
  obtain ⟨aw, hew⟩ := hew
  obtain ⟨L, vm0, k0, X, e, N, hS, hk, HD⟩ := X
  have hZ : Γ.Z.Warmed39 (Γ.s.setVm vm0).vm := State.Warmed39.trans hZ0 hS.1
  have hown : (Γ.s.setVm vm0).vm.findClass own = some Γ.m.cls := by rw [show (Γ.s.setVm vm0).vm = vm0 from rfl, hS.1.alike.findClass]; exact hown0
  exact Go.of (fun t k => XS.pop X.here hx rfl (hb hby hd) rfl hc k) K
theorem k_dup {x : Value} (G : Ctx Γ Z EL own bytes maxl ret nm rm hs0) (X : W Γ n0 T h C S sf) (hd : decode bytes pc = .ok (.dup, 1)) (hp : pc + 1 = pc') (hc : x.category = 1) (K : Go Γ n0 Q T (mkF Γ.m pc' Ls (x :: x :: st))) : Go Γ n0 Q T (mkF Γ.m pc Ls (x :: st)) := by
  subst hp
  obtain ⟨hx, hZ0, hown0, hby, hml, hret, hnm, hlk, hR, hsH, hzz, hel, hew⟩ := G
  subst hzz hel
  obtain ⟨aw, hew⟩ := hew
  obtain ⟨L, vm0, k0, X, e, N, hS, hk, HD⟩ := X
  have hZ : Γ.Z.Warmed39 (Γ.s.setVm vm0).vm := State.Warmed39.trans hZ0 hS.1
  have hown : (Γ.s.setVm vm0).vm.findClass own = some Γ.m.cls := by rw [show (Γ.s.setVm vm0).vm = vm0 from rfl, hS.1.alike.findClass]; exact hown0
  exact Go.of (fun t k => XS.dup X.here hx rfl (hb hby hd) rfl hc k) K
theorem k_dupx1 {x y : Value} (G : Ctx Γ Z EL own bytes maxl ret nm rm hs0) (X : W Γ n0 T h C S sf) (hd : decode bytes pc = .ok (.dup_x1, 1)) (hp : pc + 1 = pc') (hc : x.category = 1) (hc' : y.category = 1) (K : Go Γ n0 Q T (mkF Γ.m pc' Ls (x :: y :: x :: st))) : Go Γ n0 Q T (mkF Γ.m pc Ls (x :: y :: st)) := by
  subst hp
  obtain ⟨hx, hZ0, hown0, hby, hml, hret, hnm, hlk, hR, hsH, hzz, hel, hew⟩ := G
  subst hzz hel
  obtain ⟨aw, hew⟩ := hew
  obtain ⟨L, vm0, k0, X, e, N, hS, hk, HD⟩ := X
  have hZ : Γ.Z.Warmed39 (Γ.s.setVm vm0).vm := State.Warmed39.trans hZ0 hS.1
  have hown : (Γ.s.setVm vm0).vm.findClass own = some Γ.m.cls := by rw [show (Γ.s.setVm vm0).vm = vm0 from rfl, hS.1.alike.findClass]; exact hown0
  exact Go.of (fun t k => XS.dupX1 X.here hx rfl (hb hby hd) rfl hc hc' k) K
theorem k_dup2 {x y : Value} (G : Ctx Γ Z EL own bytes maxl ret nm rm hs0) (X : W Γ n0 T h C S sf) (hd : decode bytes pc = .ok (.dup2, 1)) (hp : pc + 1 = pc') (hc : x.category = 1) (hc' : y.category = 1) (K : Go Γ n0 Q T (mkF Γ.m pc' Ls (x :: y :: x :: y :: st))) : Go Γ n0 Q T (mkF Γ.m pc Ls (x :: y :: st)) := by
  subst hp
  obtain ⟨hx, hZ0, hown0, hby, hml, hret, hnm, hlk, hR, hsH, hzz, hel, hew⟩ := G
  subst hzz hel
  obtain ⟨aw, hew⟩ := hew
  obtain ⟨L, vm0, k0, X, e, N, hS, hk, HD⟩ := X
  have hZ : Γ.Z.Warmed39 (Γ.s.setVm vm0).vm := State.Warmed39.trans hZ0 hS.1
  have hown : (Γ.s.setVm vm0).vm.findClass own = some Γ.m.cls := by rw [show (Γ.s.setVm vm0).vm = vm0 from rfl, hS.1.alike.findClass]; exact hown0
  exact Go.of (fun t k => XT.dup2 X.here hx rfl (hb hby hd) rfl hc hc' k) K
theorem k_dup2l {x : Int64} (G : Ctx Γ Z EL own bytes maxl ret nm rm hs0) (X : W Γ n0 T h C S sf) (hd : decode bytes pc = .ok (.dup2, 1)) (hp : pc + 1 = pc')  (K : Go Γ n0 Q T (mkF Γ.m pc' Ls (.long x :: .long x :: st))) : Go Γ n0 Q T (mkF Γ.m pc Ls (.long x :: st)) := by
  subst hp
  obtain ⟨hx, hZ0, hown0, hby, hml, hret, hnm, hlk, hR, hsH, hzz, hel, hew⟩ := G
  subst hzz hel
  obtain ⟨aw, hew⟩ := hew
  obtain ⟨L, vm0, k0, X, e, N, hS, hk, HD⟩ := X
  have hZ : Γ.Z.Warmed39 (Γ.s.setVm vm0).vm := State.Warmed39.trans hZ0 hS.1
  have hown : (Γ.s.setVm vm0).vm.findClass own = some Γ.m.cls := by rw [show (Γ.s.setVm vm0).vm = vm0 from rfl, hS.1.alike.findClass]; exact hown0
  exact Go.of (fun t k => XT.dup2L X.here hx rfl (hb hby hd) rfl k) K
theorem k_iinc {k : Nat} {cst : Int} {x z : Int32} {l' : Array Slot} (G : Ctx Γ Z EL own bytes maxl ret nm rm hs0) (X : W Γ n0 T h C S sf) (hd : decode bytes pc = .ok (.iinc k cst, 3)) (hp : pc + 3 = pc') (hl : Ls[k]? = some (.val (.int x))) (hz : x + Int32.ofInt cst = z) (hl' : storeLocals Ls k (.int z) = some l') (K : Go Γ n0 Q T (mkF Γ.m pc' l' (st))) : Go Γ n0 Q T (mkF Γ.m pc Ls (st)) := by
  subst hp
  obtain ⟨hx, hZ0, hown0, hby, hml, hret, hnm, hlk, hR, hsH, hzz, hel, hew⟩ := G
  subst hzz hel
  obtain ⟨aw, hew⟩ := hew
  obtain ⟨L, vm0, k0, X, e, N, hS, hk, HD⟩ := X
  have hZ : Γ.Z.Warmed39 (Γ.s.setVm vm0).vm := State.Warmed39.trans hZ0 hS.1
  have hown : (Γ.s.setVm vm0).vm.findClass own = some Γ.m.cls := by rw [show (Γ.s.setVm vm0).vm = vm0 from rfl, hS.1.alike.findClass]; exact hown0
  subst hz
  exact Go.of (fun t k => XS.iinc X.here hx rfl (hb hby hd) hl hl' k) K
theorem k_istoreS {k : Nat} {v : Int32} {o : Slot} {l' : Array Slot} (G : Ctx Γ Z EL own bytes maxl ret nm rm hs0) (X : W Γ n0 T h C S sf) (hd : decode bytes pc = .ok (.istore k, 2)) (hp : pc + 2 = pc') (hold : Ls[k]? = some o) (ho : o = .unset ∨ ∃ w, o = .val w ∧ w.category = 1) (hl : Ls.setIfInBounds k (.val (.int v)) = l') (K : Go Γ n0 Q T (mkF Γ.m pc' l' (st))) : Go Γ n0 Q T (mkF Γ.m pc Ls (.int v :: st)) := by
  subst hp
  obtain ⟨hx, hZ0, hown0, hby, hml, hret, hnm, hlk, hR, hsH, hzz, hel, hew⟩ := G
  subst hzz hel
  obtain ⟨aw, hew⟩ := hew
  obtain ⟨L, vm0, k0, X, e, N, hS, hk, HD⟩ := X
  have hZ : Γ.Z.Warmed39 (Γ.s.setVm vm0).vm := State.Warmed39.trans hZ0 hS.1
  have hown : (Γ.s.setVm vm0).vm.findClass own = some Γ.m.cls := by rw [show (Γ.s.setVm vm0).vm = vm0 from rfl, hS.1.alike.findClass]; exact hown0
  subst hl
  exact Go.of (fun t k => XS.istoreS X.here hx rfl (hb hby hd) rfl hold ho k) K
theorem k_istoreNS {k : Fin 4} {v : Int32} {o : Slot} {l' : Array Slot} (G : Ctx Γ Z EL own bytes maxl ret nm rm hs0) (X : W Γ n0 T h C S sf) (hd : decode bytes pc = .ok (.istore_n k, 1)) (hp : pc + 1 = pc') (hold : Ls[k.val]? = some o) (ho : o = .unset ∨ ∃ w, o = .val w ∧ w.category = 1) (hl : Ls.setIfInBounds k.val (.val (.int v)) = l') (K : Go Γ n0 Q T (mkF Γ.m pc' l' (st))) : Go Γ n0 Q T (mkF Γ.m pc Ls (.int v :: st)) := by
  subst hp
  obtain ⟨hx, hZ0, hown0, hby, hml, hret, hnm, hlk, hR, hsH, hzz, hel, hew⟩ := G
  subst hzz hel
  obtain ⟨aw, hew⟩ := hew
  obtain ⟨L, vm0, k0, X, e, N, hS, hk, HD⟩ := X
  have hZ : Γ.Z.Warmed39 (Γ.s.setVm vm0).vm := State.Warmed39.trans hZ0 hS.1
  have hown : (Γ.s.setVm vm0).vm.findClass own = some Γ.m.cls := by rw [show (Γ.s.setVm vm0).vm = vm0 from rfl, hS.1.alike.findClass]; exact hown0
  subst hl
  exact Go.of (fun t k => XS.istoreNS X.here hx rfl (hb hby hd) rfl hold ho k) K
theorem k_astoreS {k : Nat} {v : Value} {o : Slot} {l' : Array Slot} (G : Ctx Γ Z EL own bytes maxl ret nm rm hs0) (X : W Γ n0 T h C S sf) (hd : decode bytes pc = .ok (.astore k, 2)) (hp : pc + 2 = pc') (hv : v.isRef = true) (hold : Ls[k]? = some o) (ho : o = .unset ∨ ∃ w, o = .val w ∧ w.category = 1) (hl : Ls.setIfInBounds k (.val v) = l') (K : Go Γ n0 Q T (mkF Γ.m pc' l' (st))) : Go Γ n0 Q T (mkF Γ.m pc Ls (v :: st)) := by
  subst hp
  obtain ⟨hx, hZ0, hown0, hby, hml, hret, hnm, hlk, hR, hsH, hzz, hel, hew⟩ := G
  subst hzz hel
  obtain ⟨aw, hew⟩ := hew
  obtain ⟨L, vm0, k0, X, e, N, hS, hk, HD⟩ := X
  have hZ : Γ.Z.Warmed39 (Γ.s.setVm vm0).vm := State.Warmed39.trans hZ0 hS.1
  have hown : (Γ.s.setVm vm0).vm.findClass own = some Γ.m.cls := by rw [show (Γ.s.setVm vm0).vm = vm0 from rfl, hS.1.alike.findClass]; exact hown0
  subst hl
  exact Go.of (fun t k => XS.astoreS X.here hx rfl (hb hby hd) rfl hv (by cases v <;> first | rfl | (simp [Value.isRef] at hv)) hold ho k) K
theorem k_astoreNS {k : Fin 4} {v : Value} {o : Slot} {l' : Array Slot} (G : Ctx Γ Z EL own bytes maxl ret nm rm hs0) (X : W Γ n0 T h C S sf) (hd : decode bytes pc = .ok (.astore_n k, 1)) (hp : pc + 1 = pc') (hv : v.isRef = true) (hold : Ls[k.val]? = some o) (ho : o = .unset ∨ ∃ w, o = .val w ∧ w.category = 1) (hl : Ls.setIfInBounds k.val (.val v) = l') (K : Go Γ n0 Q T (mkF Γ.m pc' l' (st))) : Go Γ n0 Q T (mkF Γ.m pc Ls (v :: st)) := by
  subst hp
  obtain ⟨hx, hZ0, hown0, hby, hml, hret, hnm, hlk, hR, hsH, hzz, hel, hew⟩ := G
  subst hzz hel
  obtain ⟨aw, hew⟩ := hew
  obtain ⟨L, vm0, k0, X, e, N, hS, hk, HD⟩ := X
  have hZ : Γ.Z.Warmed39 (Γ.s.setVm vm0).vm := State.Warmed39.trans hZ0 hS.1
  have hown : (Γ.s.setVm vm0).vm.findClass own = some Γ.m.cls := by rw [show (Γ.s.setVm vm0).vm = vm0 from rfl, hS.1.alike.findClass]; exact hown0
  subst hl
  exact Go.of (fun t k => XS.astoreN X.here hx rfl (hb hby hd) rfl hv (XS.store1 hold ho (by cases v <;> first | rfl | (simp [Value.isRef] at hv))) k) K
theorem k_goto {o : Int} (G : Ctx Γ Z EL own bytes maxl ret nm rm hs0) (X : W Γ n0 T h C S sf) (hd : decode bytes pc = .ok (.goto o, 3)) (ho : 0 ≤ (pc : Int) + o) (hp : ((pc : Int) + o).toNat = pc') (K : Go Γ n0 Q T (mkF Γ.m pc' Ls st)) : Go Γ n0 Q T (mkF Γ.m pc Ls st) := by
  obtain ⟨hx, hZ0, hown0, hby, hml, hret, hnm, hlk, hR, hsH, hzz, hel, hew⟩ := G
  subst hzz hel
  obtain ⟨aw, hew⟩ := hew
  obtain ⟨L, vm0, k0, X, e, N, hS, hk, HD⟩ := X
  have hZ : Γ.Z.Warmed39 (Γ.s.setVm vm0).vm := State.Warmed39.trans hZ0 hS.1
  have hown : (Γ.s.setVm vm0).vm.findClass own = some Γ.m.cls := by rw [show (Γ.s.setVm vm0).vm = vm0 from rfl, hS.1.alike.findClass]; exact hown0
  exact Go.of (fun t k => XS.goto X.here hx rfl (pc0 := pc) rfl (hb hby hd) ho hp k) K
theorem z32 : (0 : Int32).toInt = 0 := rfl
theorem hold_eq (x y : Int32) : (if_icmp.holds .eq x y = true → x = y) ∧ (if_icmp.holds .eq x y = false → x ≠ y) := by
  constructor <;> intro q <;> simp only [if_icmp.holds] at q <;> simp [Int32.lt_iff_toInt_lt, Int32.le_iff_toInt_le] at q ⊢ <;> first | exact q | omega
theorem hold0_eq (x : Int32) : (ifCond.holds .eq x = true → x = 0) ∧ (ifCond.holds .eq x = false → x ≠ 0) := by
  have z := z32
  constructor <;> intro q <;> simp only [ifCond.holds] at q <;> simp [Int32.lt_iff_toInt_lt, Int32.le_iff_toInt_le] at q ⊢ <;> first | exact q | omega
theorem k_icmp_eq {o : Int} {x y : Int32} {pc'' : Nat} (G : Ctx Γ Z EL own bytes maxl ret nm rm hs0) (X : W Γ n0 T h C S sf) (hd : decode bytes pc = .ok (.if_icmp .eq o, 3)) (hp : ((pc : Int) + o).toNat = pc') (ho : 0 ≤ (pc : Int) + o) (hp' : pc + 3 = pc'') (K : x = y → Go Γ n0 Q T (mkF Γ.m pc' Ls st)) (K' : x ≠ y → Go Γ n0 Q T (mkF Γ.m pc'' Ls st)) : Go Γ n0 Q T (mkF Γ.m pc Ls (.int y :: .int x :: st)) := by
  subst hp'
  obtain ⟨hx, hZ0, hown0, hby, hml, hret, hnm, hlk, hR, hsH, hzz, hel, hew⟩ := G
  subst hzz hel
  obtain ⟨aw, hew⟩ := hew
  obtain ⟨L, vm0, k0, X, e, N, hS, hk, HD⟩ := X
  have hZ : Γ.Z.Warmed39 (Γ.s.setVm vm0).vm := State.Warmed39.trans hZ0 hS.1
  have hown : (Γ.s.setVm vm0).vm.findClass own = some Γ.m.cls := by rw [show (Γ.s.setVm vm0).vm = vm0 from rfl, hS.1.alike.findClass]; exact hown0
  cases q : if_icmp.holds .eq x y
  · exact Go.of (fun t k => XS.icmpNo X.here hx rfl (hb hby hd) rfl q k) (K' ((hold_eq x y).2 q))
  · exact Go.of (fun t k => XS.icmpYes X.here hx rfl (pc0 := pc) rfl (hb hby hd) rfl q ho hp k) (K ((hold_eq x y).1 q))
theorem k_if_eq {o : Int} {x : Int32} {pc'' : Nat} (G : Ctx Γ Z EL own bytes maxl ret nm rm hs0) (X : W Γ n0 T h C S sf) (hd : decode bytes pc = .ok (.ifCond .eq o, 3)) (hp : ((pc : Int) + o).toNat = pc') (ho : 0 ≤ (pc : Int) + o) (hp' : pc + 3 = pc'') (K : x = 0 → Go Γ n0 Q T (mkF Γ.m pc' Ls st)) (K' : x ≠ 0 → Go Γ n0 Q T (mkF Γ.m pc'' Ls st)) : Go Γ n0 Q T (mkF Γ.m pc Ls (.int x :: st)) := by
  subst hp'
  obtain ⟨hx, hZ0, hown0, hby, hml, hret, hnm, hlk, hR, hsH, hzz, hel, hew⟩ := G
  subst hzz hel
  obtain ⟨aw, hew⟩ := hew
  obtain ⟨L, vm0, k0, X, e, N, hS, hk, HD⟩ := X
  have hZ : Γ.Z.Warmed39 (Γ.s.setVm vm0).vm := State.Warmed39.trans hZ0 hS.1
  have hown : (Γ.s.setVm vm0).vm.findClass own = some Γ.m.cls := by rw [show (Γ.s.setVm vm0).vm = vm0 from rfl, hS.1.alike.findClass]; exact hown0
  cases q : ifCond.holds .eq x
  · exact Go.of (fun t k => XS.ifNo X.here hx rfl (hb hby hd) rfl q k) (K' ((hold0_eq x).2 q))
  · exact Go.of (fun t k => XS.ifYes X.here hx rfl (pc0 := pc) rfl (hb hby hd) rfl q ho hp k) (K ((hold0_eq x).1 q))
theorem hold_ne (x y : Int32) : (if_icmp.holds .ne x y = true → x ≠ y) ∧ (if_icmp.holds .ne x y = false → x = y) := by
  constructor <;> intro q <;> simp only [if_icmp.holds] at q <;> simp [Int32.lt_iff_toInt_lt, Int32.le_iff_toInt_le] at q ⊢ <;> first | exact q | omega
theorem hold0_ne (x : Int32) : (ifCond.holds .ne x = true → x ≠ 0) ∧ (ifCond.holds .ne x = false → x = 0) := by
  have z := z32
  constructor <;> intro q <;> simp only [ifCond.holds] at q <;> simp [Int32.lt_iff_toInt_lt, Int32.le_iff_toInt_le] at q ⊢ <;> first | exact q | omega
theorem k_icmp_ne {o : Int} {x y : Int32} {pc'' : Nat} (G : Ctx Γ Z EL own bytes maxl ret nm rm hs0) (X : W Γ n0 T h C S sf) (hd : decode bytes pc = .ok (.if_icmp .ne o, 3)) (hp : ((pc : Int) + o).toNat = pc') (ho : 0 ≤ (pc : Int) + o) (hp' : pc + 3 = pc'') (K : x ≠ y → Go Γ n0 Q T (mkF Γ.m pc' Ls st)) (K' : x = y → Go Γ n0 Q T (mkF Γ.m pc'' Ls st)) : Go Γ n0 Q T (mkF Γ.m pc Ls (.int y :: .int x :: st)) := by
  subst hp'
  obtain ⟨hx, hZ0, hown0, hby, hml, hret, hnm, hlk, hR, hsH, hzz, hel, hew⟩ := G
  subst hzz hel
  obtain ⟨aw, hew⟩ := hew
  obtain ⟨L, vm0, k0, X, e, N, hS, hk, HD⟩ := X
  have hZ : Γ.Z.Warmed39 (Γ.s.setVm vm0).vm := State.Warmed39.trans hZ0 hS.1
  have hown : (Γ.s.setVm vm0).vm.findClass own = some Γ.m.cls := by rw [show (Γ.s.setVm vm0).vm = vm0 from rfl, hS.1.alike.findClass]; exact hown0
  cases q : if_icmp.holds .ne x y
  · exact Go.of (fun t k => XS.icmpNo X.here hx rfl (hb hby hd) rfl q k) (K' ((hold_ne x y).2 q))
  · exact Go.of (fun t k => XS.icmpYes X.here hx rfl (pc0 := pc) rfl (hb hby hd) rfl q ho hp k) (K ((hold_ne x y).1 q))
theorem k_if_ne {o : Int} {x : Int32} {pc'' : Nat} (G : Ctx Γ Z EL own bytes maxl ret nm rm hs0) (X : W Γ n0 T h C S sf) (hd : decode bytes pc = .ok (.ifCond .ne o, 3)) (hp : ((pc : Int) + o).toNat = pc') (ho : 0 ≤ (pc : Int) + o) (hp' : pc + 3 = pc'') (K : x ≠ 0 → Go Γ n0 Q T (mkF Γ.m pc' Ls st)) (K' : x = 0 → Go Γ n0 Q T (mkF Γ.m pc'' Ls st)) : Go Γ n0 Q T (mkF Γ.m pc Ls (.int x :: st)) := by
  subst hp'
  obtain ⟨hx, hZ0, hown0, hby, hml, hret, hnm, hlk, hR, hsH, hzz, hel, hew⟩ := G
  subst hzz hel
  obtain ⟨aw, hew⟩ := hew
  obtain ⟨L, vm0, k0, X, e, N, hS, hk, HD⟩ := X
  have hZ : Γ.Z.Warmed39 (Γ.s.setVm vm0).vm := State.Warmed39.trans hZ0 hS.1
  have hown : (Γ.s.setVm vm0).vm.findClass own = some Γ.m.cls := by rw [show (Γ.s.setVm vm0).vm = vm0 from rfl, hS.1.alike.findClass]; exact hown0
  cases q : ifCond.holds .ne x
  · exact Go.of (fun t k => XS.ifNo X.here hx rfl (hb hby hd) rfl q k) (K' ((hold0_ne x).2 q))
  · exact Go.of (fun t k => XS.ifYes X.here hx rfl (pc0 := pc) rfl (hb hby hd) rfl q ho hp k) (K ((hold0_ne x).1 q))
theorem hold_lt (x y : Int32) : (if_icmp.holds .lt x y = true → x.toInt < y.toInt) ∧ (if_icmp.holds .lt x y = false → y.toInt ≤ x.toInt) := by
  constructor <;> intro q <;> simp only [if_icmp.holds] at q <;> simp [Int32.lt_iff_toInt_lt, Int32.le_iff_toInt_le] at q ⊢ <;> first | exact q | omega
theorem hold0_lt (x : Int32) : (ifCond.holds .lt x = true → x.toInt < 0) ∧ (ifCond.holds .lt x = false → 0 ≤ x.toInt) := by
  have z := z32
  constructor <;> intro q <;> simp only [ifCond.holds] at q <;> simp [Int32.lt_iff_toInt_lt, Int32.le_iff_toInt_le] at q ⊢ <;> first | exact q | omega
theorem k_icmp_lt {o : Int} {x y : Int32} {pc'' : Nat} (G : Ctx Γ Z EL own bytes maxl ret nm rm hs0) (X : W Γ n0 T h C S sf) (hd : decode bytes pc = .ok (.if_icmp .lt o, 3)) (hp : ((pc : Int) + o).toNat = pc') (ho : 0 ≤ (pc : Int) + o) (hp' : pc + 3 = pc'') (K : x.toInt < y.toInt → Go Γ n0 Q T (mkF Γ.m pc' Ls st)) (K' : y.toInt ≤ x.toInt → Go Γ n0 Q T (mkF Γ.m pc'' Ls st)) : Go Γ n0 Q T (mkF Γ.m pc Ls (.int y :: .int x :: st)) := by
  subst hp'
  obtain ⟨hx, hZ0, hown0, hby, hml, hret, hnm, hlk, hR, hsH, hzz, hel, hew⟩ := G
  subst hzz hel
  obtain ⟨aw, hew⟩ := hew
  obtain ⟨L, vm0, k0, X, e, N, hS, hk, HD⟩ := X
  have hZ : Γ.Z.Warmed39 (Γ.s.setVm vm0).vm := State.Warmed39.trans hZ0 hS.1
  have hown : (Γ.s.setVm vm0).vm.findClass own = some Γ.m.cls := by rw [show (Γ.s.setVm vm0).vm = vm0 from rfl, hS.1.alike.findClass]; exact hown0
  cases q : if_icmp.holds .lt x y
  · exact Go.of (fun t k => XS.icmpNo X.here hx rfl (hb hby hd) rfl q k) (K' ((hold_lt x y).2 q))
  · exact Go.of (fun t k => XS.icmpYes X.here hx rfl (pc0 := pc) rfl (hb hby hd) rfl q ho hp k) (K ((hold_lt x y).1 q))
theorem k_if_lt {o : Int} {x : Int32} {pc'' : Nat} (G : Ctx Γ Z EL own bytes maxl ret nm rm hs0) (X : W Γ n0 T h C S sf) (hd : decode bytes pc = .ok (.ifCond .lt o, 3)) (hp : ((pc : Int) + o).toNat = pc') (ho : 0 ≤ (pc : Int) + o) (hp' : pc + 3 = pc'') (K : x.toInt < 0 → Go Γ n0 Q T (mkF Γ.m pc' Ls st)) (K' : 0 ≤ x.toInt → Go Γ n0 Q T (mkF Γ.m pc'' Ls st)) : Go Γ n0 Q T (mkF Γ.m pc Ls (.int x :: st)) := by
  subst hp'
  obtain ⟨hx, hZ0, hown0, hby, hml, hret, hnm, hlk, hR, hsH, hzz, hel, hew⟩ := G
  subst hzz hel
  obtain ⟨aw, hew⟩ := hew
  obtain ⟨L, vm0, k0, X, e, N, hS, hk, HD⟩ := X
  have hZ : Γ.Z.Warmed39 (Γ.s.setVm vm0).vm := State.Warmed39.trans hZ0 hS.1
  have hown : (Γ.s.setVm vm0).vm.findClass own = some Γ.m.cls := by rw [show (Γ.s.setVm vm0).vm = vm0 from rfl, hS.1.alike.findClass]; exact hown0
  cases q : ifCond.holds .lt x
  · exact Go.of (fun t k => XS.ifNo X.here hx rfl (hb hby hd) rfl q k) (K' ((hold0_lt x).2 q))
  · exact Go.of (fun t k => XS.ifYes X.here hx rfl (pc0 := pc) rfl (hb hby hd) rfl q ho hp k) (K ((hold0_lt x).1 q))
theorem hold_ge (x y : Int32) : (if_icmp.holds .ge x y = true → y.toInt ≤ x.toInt) ∧ (if_icmp.holds .ge x y = false → x.toInt < y.toInt) := by
  constructor <;> intro q <;> simp only [if_icmp.holds] at q <;> simp [Int32.lt_iff_toInt_lt, Int32.le_iff_toInt_le] at q ⊢ <;> first | exact q | omega
theorem hold0_ge (x : Int32) : (ifCond.holds .ge x = true → 0 ≤ x.toInt) ∧ (ifCond.holds .ge x = false → x.toInt < 0) := by
  have z := z32
  constructor <;> intro q <;> simp only [ifCond.holds] at q <;> simp [Int32.lt_iff_toInt_lt, Int32.le_iff_toInt_le] at q ⊢ <;> first | exact q | omega
theorem k_icmp_ge {o : Int} {x y : Int32} {pc'' : Nat} (G : Ctx Γ Z EL own bytes maxl ret nm rm hs0) (X : W Γ n0 T h C S sf) (hd : decode bytes pc = .ok (.if_icmp .ge o, 3)) (hp : ((pc : Int) + o).toNat = pc') (ho : 0 ≤ (pc : Int) + o) (hp' : pc + 3 = pc'') (K : y.toInt ≤ x.toInt → Go Γ n0 Q T (mkF Γ.m pc' Ls st)) (K' : x.toInt < y.toInt → Go Γ n0 Q T (mkF Γ.m pc'' Ls st)) : Go Γ n0 Q T (mkF Γ.m pc Ls (.int y :: .int x :: st)) := by
  subst hp'
  obtain ⟨hx, hZ0, hown0, hby, hml, hret, hnm, hlk, hR, hsH, hzz, hel, hew⟩ := G
  subst hzz hel
  obtain ⟨aw, hew⟩ := hew
  obtain ⟨L, vm0, k0, X, e, N, hS, hk, HD⟩ := X
  have hZ : Γ.Z.Warmed39 (Γ.s.setVm vm0).vm := State.Warmed39.trans hZ0 hS.1
  have hown : (Γ.s.setVm vm0).vm.findClass own = some Γ.m.cls := by rw [show (Γ.s.setVm vm0).vm = vm0 from rfl, hS.1.alike.findClass]; exact hown0
  cases q : if_icmp.holds .ge x y
  · exact Go.of (fun t k => XS.icmpNo X.here hx rfl (hb hby hd) rfl q k) (K' ((hold_ge x y).2 q))
  · exact Go.of (fun t k => XS.icmpYes X.here hx rfl (pc0 := pc) rfl (hb hby hd) rfl q ho hp k) (K ((hold_ge x y).1 q))
theorem k_if_ge {o : Int} {x : Int32} {pc'' : Nat} (G : Ctx Γ Z EL own bytes maxl ret nm rm hs0) (X : W Γ n0 T h C S sf) (hd : decode bytes pc = .ok (.ifCond .ge o, 3)) (hp : ((pc : Int) + o).toNat = pc') (ho : 0 ≤ (pc : Int) + o) (hp' : pc + 3 = pc'') (K : 0 ≤ x.toInt → Go Γ n0 Q T (mkF Γ.m pc' Ls st)) (K' : x.toInt < 0 → Go Γ n0 Q T (mkF Γ.m pc'' Ls st)) : Go Γ n0 Q T (mkF Γ.m pc Ls (.int x :: st)) := by
  subst hp'
  obtain ⟨hx, hZ0, hown0, hby, hml, hret, hnm, hlk, hR, hsH, hzz, hel, hew⟩ := G
  subst hzz hel
  obtain ⟨aw, hew⟩ := hew
  obtain ⟨L, vm0, k0, X, e, N, hS, hk, HD⟩ := X
  have hZ : Γ.Z.Warmed39 (Γ.s.setVm vm0).vm := State.Warmed39.trans hZ0 hS.1
  have hown : (Γ.s.setVm vm0).vm.findClass own = some Γ.m.cls := by rw [show (Γ.s.setVm vm0).vm = vm0 from rfl, hS.1.alike.findClass]; exact hown0
  cases q : ifCond.holds .ge x
  · exact Go.of (fun t k => XS.ifNo X.here hx rfl (hb hby hd) rfl q k) (K' ((hold0_ge x).2 q))
  · exact Go.of (fun t k => XS.ifYes X.here hx rfl (pc0 := pc) rfl (hb hby hd) rfl q ho hp k) (K ((hold0_ge x).1 q))
theorem hold_gt (x y : Int32) : (if_icmp.holds .gt x y = true → y.toInt < x.toInt) ∧ (if_icmp.holds .gt x y = false → x.toInt ≤ y.toInt) := by
  constructor <;> intro q <;> simp only [if_icmp.holds] at q <;> simp [Int32.lt_iff_toInt_lt, Int32.le_iff_toInt_le] at q ⊢ <;> first | exact q | omega
theorem hold0_gt (x : Int32) : (ifCond.holds .gt x = true → 0 < x.toInt) ∧ (ifCond.holds .gt x = false → x.toInt ≤ 0) := by
  have z := z32
  constructor <;> intro q <;> simp only [ifCond.holds] at q <;> simp [Int32.lt_iff_toInt_lt, Int32.le_iff_toInt_le] at q ⊢ <;> first | exact q | omega
theorem k_icmp_gt {o : Int} {x y : Int32} {pc'' : Nat} (G : Ctx Γ Z EL own bytes maxl ret nm rm hs0) (X : W Γ n0 T h C S sf) (hd : decode bytes pc = .ok (.if_icmp .gt o, 3)) (hp : ((pc : Int) + o).toNat = pc') (ho : 0 ≤ (pc : Int) + o) (hp' : pc + 3 = pc'') (K : y.toInt < x.toInt → Go Γ n0 Q T (mkF Γ.m pc' Ls st)) (K' : x.toInt ≤ y.toInt → Go Γ n0 Q T (mkF Γ.m pc'' Ls st)) : Go Γ n0 Q T (mkF Γ.m pc Ls (.int y :: .int x :: st)) := by
  subst hp'
  obtain ⟨hx, hZ0, hown0, hby, hml, hret, hnm, hlk, hR, hsH, hzz, hel, hew⟩ := G
  subst hzz hel
  obtain ⟨aw, hew⟩ := hew
  obtain ⟨L, vm0, k0, X, e, N, hS, hk, HD⟩ := X
  have hZ : Γ.Z.Warmed39 (Γ.s.setVm vm0).vm := State.Warmed39.trans hZ0 hS.1
  have hown : (Γ.s.setVm vm0).vm.findClass own = some Γ.m.cls := by rw [show (Γ.s.setVm vm0).vm = vm0 from rfl, hS.1.alike.findClass]; exact hown0
  cases q : if_icmp.holds .gt x y
  · exact Go.of (fun t k => XS.icmpNo X.here hx rfl (hb hby hd) rfl q k) (K' ((hold_gt x y).2 q))
  · exact Go.of (fun t k => XS.icmpYes X.here hx rfl (pc0 := pc) rfl (hb hby hd) rfl q ho hp k) (K ((hold_gt x y).1 q))
theorem k_if_gt {o : Int} {x : Int32} {pc'' : Nat} (G : Ctx Γ Z EL own bytes maxl ret nm rm hs0) (X : W Γ n0 T h C S sf) (hd : decode bytes pc = .ok (.ifCond .gt o, 3)) (hp : ((pc : Int) + o).toNat = pc') (ho : 0 ≤ (pc : Int) + o) (hp' : pc + 3 = pc'') (K : 0 < x.toInt → Go Γ n0 Q T (mkF Γ.m pc' Ls st)) (K' : x.toInt ≤ 0 → Go Γ n0 Q T (mkF Γ.m pc'' Ls st)) : Go Γ n0 Q T (mkF Γ.m pc Ls (.int x :: st)) := by
  subst hp'
  obtain ⟨hx, hZ0, hown0, hby, hml, hret, hnm, hlk, hR, hsH, hzz, hel, hew⟩ := G
  subst hzz hel
  obtain ⟨aw, hew⟩ := hew
  obtain ⟨L, vm0, k0, X, e, N, hS, hk, HD⟩ := X
  have hZ : Γ.Z.Warmed39 (Γ.s.setVm vm0).vm := State.Warmed39.trans hZ0 hS.1
  have hown : (Γ.s.setVm vm0).vm.findClass own = some Γ.m.cls := by rw [show (Γ.s.setVm vm0).vm = vm0 from rfl, hS.1.alike.findClass]; exact hown0
  cases q : ifCond.holds .gt x
  · exact Go.of (fun t k => XS.ifNo X.here hx rfl (hb hby hd) rfl q k) (K' ((hold0_gt x).2 q))
  · exact Go.of (fun t k => XS.ifYes X.here hx rfl (pc0 := pc) rfl (hb hby hd) rfl q ho hp k) (K ((hold0_gt x).1 q))
theorem hold_le (x y : Int32) : (if_icmp.holds .le x y = true → x.toInt ≤ y.toInt) ∧ (if_icmp.holds .le x y = false → y.toInt < x.toInt) := by
  constructor <;> intro q <;> simp only [if_icmp.holds] at q <;> simp [Int32.lt_iff_toInt_lt, Int32.le_iff_toInt_le] at q ⊢ <;> first | exact q | omega
theorem hold0_le (x : Int32) : (ifCond.holds .le x = true → x.toInt ≤ 0) ∧ (ifCond.holds .le x = false → 0 < x.toInt) := by
  have z := z32
  constructor <;> intro q <;> simp only [ifCond.holds] at q <;> simp [Int32.lt_iff_toInt_lt, Int32.le_iff_toInt_le] at q ⊢ <;> first | exact q | omega
theorem k_icmp_le {o : Int} {x y : Int32} {pc'' : Nat} (G : Ctx Γ Z EL own bytes maxl ret nm rm hs0) (X : W Γ n0 T h C S sf) (hd : decode bytes pc = .ok (.if_icmp .le o, 3)) (hp : ((pc : Int) + o).toNat = pc') (ho : 0 ≤ (pc : Int) + o) (hp' : pc + 3 = pc'') (K : x.toInt ≤ y.toInt → Go Γ n0 Q T (mkF Γ.m pc' Ls st)) (K' : y.toInt < x.toInt → Go Γ n0 Q T (mkF Γ.m pc'' Ls st)) : Go Γ n0 Q T (mkF Γ.m pc Ls (.int y :: .int x :: st)) := by
  subst hp'
  obtain ⟨hx, hZ0, hown0, hby, hml, hret, hnm, hlk, hR, hsH, hzz, hel, hew⟩ := G
  subst hzz hel
  obtain ⟨aw, hew⟩ := hew
  obtain ⟨L, vm0, k0, X, e, N, hS, hk, HD⟩ := X
  have hZ : Γ.Z.Warmed39 (Γ.s.setVm vm0).vm := State.Warmed39.trans hZ0 hS.1
  have hown : (Γ.s.setVm vm0).vm.findClass own = some Γ.m.cls := by rw [show (Γ.s.setVm vm0).vm = vm0 from rfl, hS.1.alike.findClass]; exact hown0
  cases q : if_icmp.holds .le x y
  · exact Go.of (fun t k => XS.icmpNo X.here hx rfl (hb hby hd) rfl q k) (K' ((hold_le x y).2 q))
  · exact Go.of (fun t k => XS.icmpYes X.here hx rfl (pc0 := pc) rfl (hb hby hd) rfl q ho hp k) (K ((hold_le x y).1 q))
theorem k_if_le {o : Int} {x : Int32} {pc'' : Nat} (G : Ctx Γ Z EL own bytes maxl ret nm rm hs0) (X : W Γ n0 T h C S sf) (hd : decode bytes pc = .ok (.ifCond .le o, 3)) (hp : ((pc : Int) + o).toNat = pc') (ho : 0 ≤ (pc : Int) + o) (hp' : pc + 3 = pc'') (K : x.toInt ≤ 0 → Go Γ n0 Q T (mkF Γ.m pc' Ls st)) (K' : 0 < x.toInt → Go Γ n0 Q T (mkF Γ.m pc'' Ls st)) : Go Γ n0 Q T (mkF Γ.m pc Ls (.int x :: st)) := by
  subst hp'
  obtain ⟨hx, hZ0, hown0, hby, hml, hret, hnm, hlk, hR, hsH, hzz, hel, hew⟩ := G
  subst hzz hel
  obtain ⟨aw, hew⟩ := hew
  obtain ⟨L, vm0, k0, X, e, N, hS, hk, HD⟩ := X
  have hZ : Γ.Z.Warmed39 (Γ.s.setVm vm0).vm := State.Warmed39.trans hZ0 hS.1
  have hown : (Γ.s.setVm vm0).vm.findClass own = some Γ.m.cls := by rw [show (Γ.s.setVm vm0).vm = vm0 from rfl, hS.1.alike.findClass]; exact hown0
  cases q : ifCond.holds .le x
  · exact Go.of (fun t k => XS.ifNo X.here hx rfl (hb hby hd) rfl q k) (K' ((hold0_le x).2 q))
  · exact Go.of (fun t k => XS.ifYes X.here hx rfl (pc0 := pc) rfl (hb hby hd) rfl q ho hp k) (K ((hold0_le x).1 q))
theorem k_acmp_eq {o : Int} {x y : Value} {pc'' : Nat} (G : Ctx Γ Z EL own bytes maxl ret nm rm hs0) (X : W Γ n0 T h C S sf) (hd : decode bytes pc = .ok (.if_acmp .eq o, 3)) (hp : ((pc : Int) + o).toNat = pc') (ho : 0 ≤ (pc : Int) + o) (hp' : pc + 3 = pc'') (h1 : x.isRef = true) (h2 : y.isRef = true) (K : x = y → Go Γ n0 Q T (mkF Γ.m pc' Ls st)) (K' : x ≠ y → Go Γ n0 Q T (mkF Γ.m pc'' Ls st)) : Go Γ n0 Q T (mkF Γ.m pc Ls (y :: x :: st)) := by
  subst hp hp'
  obtain ⟨hx, hZ0, hown0, hby, hml, hret, hnm, hlk, hR, hsH, hzz, hel, hew⟩ := G
  subst hzz hel
  obtain ⟨aw, hew⟩ := hew
  obtain ⟨L, vm0, k0, X, e, N, hS, hk, HD⟩ := X
  have hZ : Γ.Z.Warmed39 (Γ.s.setVm vm0).vm := State.Warmed39.trans hZ0 hS.1
  have hown : (Γ.s.setVm vm0).vm.findClass own = some Γ.m.cls := by rw [show (Γ.s.setVm vm0).vm = vm0 from rfl, hS.1.alike.findClass]; exact hown0
  by_cases q : x = y
  · exact Go.of (fun t k => acmp (g := mkF Γ.m pc Ls (y :: x :: st)) X hx rfl h1 h2 (pc0 := pc) (same := true) rfl (hb hby hd) rfl (decide_eq_true q) ho rfl k) (K q)
  · exact Go.of (fun t k => acmp (g := mkF Γ.m pc Ls (y :: x :: st)) X hx rfl h1 h2 (pc0 := pc) (same := false) rfl (hb hby hd) rfl (decide_eq_false q) ho rfl k) (K' q)
theorem k_acmp_ne {o : Int} {x y : Value} {pc'' : Nat} (G : Ctx Γ Z EL own bytes maxl ret nm rm hs0) (X : W Γ n0 T h C S sf) (hd : decode bytes pc = .ok (.if_acmp .ne o, 3)) (hp : ((pc : Int) + o).toNat = pc') (ho : 0 ≤ (pc : Int) + o) (hp' : pc + 3 = pc'') (h1 : x.isRef = true) (h2 : y.isRef = true) (K : x ≠ y → Go Γ n0 Q T (mkF Γ.m pc' Ls st)) (K' : x = y → Go Γ n0 Q T (mkF Γ.m pc'' Ls st)) : Go Γ n0 Q T (mkF Γ.m pc Ls (y :: x :: st)) := by
  subst hp hp'
  obtain ⟨hx, hZ0, hown0, hby, hml, hret, hnm, hlk, hR, hsH, hzz, hel, hew⟩ := G
  subst hzz hel
  obtain ⟨aw, hew⟩ := hew
  obtain ⟨L, vm0, k0, X, e, N, hS, hk, HD⟩ := X
  have hZ : Γ.Z.Warmed39 (Γ.s.setVm vm0).vm := State.Warmed39.trans hZ0 hS.1
  have hown : (Γ.s.setVm vm0).vm.findClass own = some Γ.m.cls := by rw [show (Γ.s.setVm vm0).vm = vm0 from rfl, hS.1.alike.findClass]; exact hown0
  by_cases q : x = y
  · exact Go.of (fun t k => acmp (g := mkF Γ.m pc Ls (y :: x :: st)) X hx rfl h1 h2 (pc0 := pc) (same := true) rfl (hb hby hd) rfl (decide_eq_true q) ho rfl k) (K' q)
  · exact Go.of (fun t k => acmp (g := mkF Γ.m pc Ls (y :: x :: st)) X hx rfl h1 h2 (pc0 := pc) (same := false) rfl (hb hby hd) rfl (decide_eq_false q) ho rfl k) (K q)
theorem k_ifnull {o : Int} {x : Value} {pc'' : Nat} (G : Ctx Γ Z EL own bytes maxl ret nm rm hs0) (X : W Γ n0 T h C S sf) (hd : decode bytes pc = .ok (.ifnull o, 3)) (hp : ((pc : Int) + o).toNat = pc') (ho : 0 ≤ (pc : Int) + o) (hp' : pc + 3 = pc'') (h1 : x.isRef = true) (K : x = .null → Go Γ n0 Q T (mkF Γ.m pc' Ls st)) (K' : ∀ a, x = .ref a → Go Γ n0 Q T (mkF Γ.m pc'' Ls st)) : Go Γ n0 Q T (mkF Γ.m pc Ls (x :: st)) := by
  subst hp'
  obtain ⟨hx, hZ0, hown0, hby, hml, hret, hnm, hlk, hR, hsH, hzz, hel, hew⟩ := G
  subst hzz hel
  obtain ⟨aw, hew⟩ := hew
  obtain ⟨L, vm0, k0, X, e, N, hS, hk, HD⟩ := X
  have hZ : Γ.Z.Warmed39 (Γ.s.setVm vm0).vm := State.Warmed39.trans hZ0 hS.1
  have hown : (Γ.s.setVm vm0).vm.findClass own = some Γ.m.cls := by rw [show (Γ.s.setVm vm0).vm = vm0 from rfl, hS.1.alike.findClass]; exact hown0
  rcases ref_cases h1 with rfl | ⟨a, rfl⟩
  · exact Go.of (fun t k => XS.ifnullYes X.here hx rfl (pc0 := pc) rfl (hb hby hd) rfl ho hp k) (K rfl)
  · exact Go.of (fun t k => XS.ifnullNo X.here hx rfl (hb hby hd) rfl k) (K' a rfl)
theorem k_ifnonnull {o : Int} {x : Value} {pc'' : Nat} (G : Ctx Γ Z EL own bytes maxl ret nm rm hs0) (X : W Γ n0 T h C S sf) (hd : decode bytes pc = .ok (.ifnonnull o, 3)) (hp : ((pc : Int) + o).toNat = pc') (ho : 0 ≤ (pc : Int) + o) (hp' : pc + 3 = pc'') (h1 : x.isRef = true) (K : ∀ a, x = .ref a → Go Γ n0 Q T (mkF Γ.m pc' Ls st)) (K' : x = .null → Go Γ n0 Q T (mkF Γ.m pc'' Ls st)) : Go Γ n0 Q T (mkF Γ.m pc Ls (x :: st)) := by
  subst hp'
  obtain ⟨hx, hZ0, hown0, hby, hml, hret, hnm, hlk, hR, hsH, hzz, hel, hew⟩ := G
  subst hzz hel
  obtain ⟨aw, hew⟩ := hew
  obtain ⟨L, vm0, k0, X, e, N, hS, hk, HD⟩ := X
  have hZ : Γ.Z.Warmed39 (Γ.s.setVm vm0).vm := State.Warmed39.trans hZ0 hS.1
  have hown : (Γ.s.setVm vm0).vm.findClass own = some Γ.m.cls := by rw [show (Γ.s.setVm vm0).vm = vm0 from rfl, hS.1.alike.findClass]; exact hown0
  rcases ref_cases h1 with rfl | ⟨a, rfl⟩
  · exact Go.of (fun t k => XS.ifnonnullNo X.here hx rfl (hb hby hd) rfl k) (K' rfl)
  · exact Go.of (fun t k => XS.ifnonnullYes X.here hx rfl (pc0 := pc) rfl (hb hby hd) rfl ho hp k) (K a rfl)
theorem k_lswHit {k : Int32} {dflt : Int} {pairs : Array (Int × Int)} {len : Nat} {a off : Int} (G : Ctx Γ Z EL own bytes maxl ret nm rm hs0) (X : W Γ n0 T h C S sf) (hd : decode bytes pc = .ok (.lookupswitch dflt pairs, len)) (hs : (pairs.toList.zip (pairs.toList.drop 1)).all (fun (a, next) => a.1 < next.1) = true) (hf : pairs.find? (·.1 == k.toInt) = some (a, off)) (ho : 0 ≤ (pc : Int) + off) (hp : ((pc : Int) + off).toNat = pc') (K : Go Γ n0 Q T (mkF Γ.m pc' Ls st)) : Go Γ n0 Q T (mkF Γ.m pc Ls (.int k :: st)) := by
  subst hp
  obtain ⟨hx, hZ0, hown0, hby, hml, hret, hnm, hlk, hR, hsH, hzz, hel, hew⟩ := G
  subst hzz hel
  obtain ⟨aw, hew⟩ := hew
  obtain ⟨L, vm0, k0, X, e, N, hS, hk, HD⟩ := X
  have hZ : Γ.Z.Warmed39 (Γ.s.setVm vm0).vm := State.Warmed39.trans hZ0 hS.1
  have hown : (Γ.s.setVm vm0).vm.findClass own = some Γ.m.cls := by rw [show (Γ.s.setVm vm0).vm = vm0 from rfl, hS.1.alike.findClass]; exact hown0
  exact Go.of (fun t k' => X.lookupswitchHit hx (g := mkF Γ.m pc Ls (.int k :: st)) rfl rfl (hb hby hd) hs hf ho t k') K
theorem k_lswMiss {k : Int32} {dflt : Int} {pairs : Array (Int × Int)} {len : Nat} (G : Ctx Γ Z EL own bytes maxl ret nm rm hs0) (X : W Γ n0 T h C S sf) (hd : decode bytes pc = .ok (.lookupswitch dflt pairs, len)) (hs : (pairs.toList.zip (pairs.toList.drop 1)).all (fun (a, next) => a.1 < next.1) = true) (hf : pairs.find? (·.1 == k.toInt) = none) (ho : 0 ≤ (pc : Int) + dflt) (hp : ((pc : Int) + dflt).toNat = pc') (K : Go Γ n0 Q T (mkF Γ.m pc' Ls st)) : Go Γ n0 Q T (mkF Γ.m pc Ls (.int k :: st)) := by
  subst hp
  obtain ⟨hx, hZ0, hown0, hby, hml, hret, hnm, hlk, hR, hsH, hzz, hel, hew⟩ := G
  subst hzz hel
  obtain ⟨aw, hew⟩ := hew
  obtain ⟨L, vm0, k0, X, e, N, hS, hk, HD⟩ := X
  have hZ : Γ.Z.Warmed39 (Γ.s.setVm vm0).vm := State.Warmed39.trans hZ0 hS.1
  have hown : (Γ.s.setVm vm0).vm.findClass own = some Γ.m.cls := by rw [show (Γ.s.setVm vm0).vm = vm0 from rfl, hS.1.alike.findClass]; exact hown0
  exact Go.of (fun t k' => X.lookupswitchMiss hx (g := mkF Γ.m pc Ls (.int k :: st)) rfl rfl (hb hby hd) hs hf ho t k') K
theorem k_tswIn {k : Int32} {dflt low high : Int} {offs : Array Int} {len : Nat} {off : Int} (G : Ctx Γ Z EL own bytes maxl ret nm rm hs0) (X : W Γ n0 T h C S sf) (hd : decode bytes pc = .ok (.tableswitch dflt low high offs, len)) (hin : low ≤ k.toInt ∧ k.toInt ≤ high) (hf : offs[(k.toInt - low).toNat]? = some off) (ho : 0 ≤ (pc : Int) + off) (hp : ((pc : Int) + off).toNat = pc') (K : Go Γ n0 Q T (mkF Γ.m pc' Ls st)) : Go Γ n0 Q T (mkF Γ.m pc Ls (.int k :: st)) := by
  subst hp
  obtain ⟨hx, hZ0, hown0, hby, hml, hret, hnm, hlk, hR, hsH, hzz, hel, hew⟩ := G
  subst hzz hel
  obtain ⟨aw, hew⟩ := hew
  obtain ⟨L, vm0, k0, X, e, N, hS, hk, HD⟩ := X
  have hZ : Γ.Z.Warmed39 (Γ.s.setVm vm0).vm := State.Warmed39.trans hZ0 hS.1
  have hown : (Γ.s.setVm vm0).vm.findClass own = some Γ.m.cls := by rw [show (Γ.s.setVm vm0).vm = vm0 from rfl, hS.1.alike.findClass]; exact hown0
  exact Go.of (fun t k' => X.tableswitchIn hx (g := mkF Γ.m pc Ls (.int k :: st)) rfl rfl (hb hby hd) (by omega) hf ho t k') K
theorem k_tswOut {k : Int32} {dflt low high : Int} {offs : Array Int} {len : Nat} (G : Ctx Γ Z EL own bytes maxl ret nm rm hs0) (X : W Γ n0 T h C S sf) (hd : decode bytes pc = .ok (.tableswitch dflt low high offs, len)) (hout : k.toInt < low ∨ high < k.toInt) (ho : 0 ≤ (pc : Int) + dflt) (hp : ((pc : Int) + dflt).toNat = pc') (K : Go Γ n0 Q T (mkF Γ.m pc' Ls st)) : Go Γ n0 Q T (mkF Γ.m pc Ls (.int k :: st)) := by
  subst hp
  obtain ⟨hx, hZ0, hown0, hby, hml, hret, hnm, hlk, hR, hsH, hzz, hel, hew⟩ := G
  subst hzz hel
  obtain ⟨aw, hew⟩ := hew
  obtain ⟨L, vm0, k0, X, e, N, hS, hk, HD⟩ := X
  have hZ : Γ.Z.Warmed39 (Γ.s.setVm vm0).vm := State.Warmed39.trans hZ0 hS.1
  have hown : (Γ.s.setVm vm0).vm.findClass own = some Γ.m.cls := by rw [show (Γ.s.setVm vm0).vm = vm0 from rfl, hS.1.alike.findClass]; exact hown0
  exact Go.of (fun t k' => X.tableswitchOut hx (g := mkF Γ.m pc Ls (.int k :: st)) rfl rfl (hb hby hd) hout ho t k') K
theorem k_ldcI {a0 : Array Value} {idx : Nat} {v : Int32} (G : Ctx Γ Z EL own bytes maxl ret nm rm hs0) (X : W Γ n0 T h C S sf) (w : (Cond.constant own idx v).before a0 Z = true) (hd : decode bytes pc = .ok (.ldc idx, 2)) (hp : pc + 2 = pc') (K : Go Γ n0 Q T (mkF Γ.m pc' Ls (.int v :: st))) : Go Γ n0 Q T (mkF Γ.m pc Ls st) := by
  subst hp
  obtain ⟨hx, hZ0, hown0, hby, hml, hret, hnm, hlk, hR, hsH, hzz, hel, hew⟩ := G
  subst hzz hel
  obtain ⟨aw, hew⟩ := hew
  obtain ⟨L, vm0, k0, X, e, N, hS, hk, HD⟩ := X
  have hZ : Γ.Z.Warmed39 (Γ.s.setVm vm0).vm := State.Warmed39.trans hZ0 hS.1
  have hown : (Γ.s.setVm vm0).vm.findClass own = some Γ.m.cls := by rw [show (Γ.s.setVm vm0).vm = vm0 from rfl, hS.1.alike.findClass]; exact hown0
  exact Go.of (fun t k => X.ldcInt hx hown (mvT hZ w) (g := mkF Γ.m pc Ls st) rfl (hb hby hd) t k) K
theorem k_ldcwI {a0 : Array Value} {idx : Nat} {v : Int32} (G : Ctx Γ Z EL own bytes maxl ret nm rm hs0) (X : W Γ n0 T h C S sf) (w : (Cond.constant own idx v).before a0 Z = true) (hd : decode bytes pc = .ok (.ldc_w idx, 3)) (hp : pc + 3 = pc') (K : Go Γ n0 Q T (mkF Γ.m pc' Ls (.int v :: st))) : Go Γ n0 Q T (mkF Γ.m pc Ls st) := by
  subst hp
  obtain ⟨hx, hZ0, hown0, hby, hml, hret, hnm, hlk, hR, hsH, hzz, hel, hew⟩ := G
  subst hzz hel
  obtain ⟨aw, hew⟩ := hew
  obtain ⟨L, vm0, k0, X, e, N, hS, hk, HD⟩ := X
  have hZ : Γ.Z.Warmed39 (Γ.s.setVm vm0).vm := State.Warmed39.trans hZ0 hS.1
  have hown : (Γ.s.setVm vm0).vm.findClass own = some Γ.m.cls := by rw [show (Γ.s.setVm vm0).vm = vm0 from rfl, hS.1.alike.findClass]; exact hown0
  exact Go.of (fun t k => X.ldcwInt hx hown (mvT hZ w) (g := mkF Γ.m pc Ls st) rfl (hb hby hd) t k) K
theorem k_ldcL {a0 : Array Value} {idx : Nat} {v : Int64} (G : Ctx Γ Z EL own bytes maxl ret nm rm hs0) (X : W Γ n0 T h C S sf) (w : (Cond.constantLong own idx v).before a0 Z = true) (hd : decode bytes pc = .ok (.ldc2_w idx, 3)) (hp : pc + 3 = pc') (K : Go Γ n0 Q T (mkF Γ.m pc' Ls (.long v :: st))) : Go Γ n0 Q T (mkF Γ.m pc Ls st) := by
  subst hp
  obtain ⟨hx, hZ0, hown0, hby, hml, hret, hnm, hlk, hR, hsH, hzz, hel, hew⟩ := G
  subst hzz hel
  obtain ⟨aw, hew⟩ := hew
  obtain ⟨L, vm0, k0, X, e, N, hS, hk, HD⟩ := X
  have hZ : Γ.Z.Warmed39 (Γ.s.setVm vm0).vm := State.Warmed39.trans hZ0 hS.1
  have hown : (Γ.s.setVm vm0).vm.findClass own = some Γ.m.cls := by rw [show (Γ.s.setVm vm0).vm = vm0 from rfl, hS.1.alike.findClass]; exact hown0
  exact Go.of (fun t k => X.ldc2Long hx hown (mvT hZ w) (g := mkF Γ.m pc Ls st) rfl (hb hby hd) t k) K
theorem k_getS {a0 : Array Value} {idx : Nat} {R0 O n d host : String} {v : Value} (G : Ctx Γ Z EL own bytes maxl ret nm rm hs0) (X : W Γ n0 T h C S sf) (w : (Cond.fieldLink own idx R0 n d).before a0 Z = true ∨ (Cond.fieldLinkNest own idx R0 n d host).before a0 Z = true) (via : Via Z R0 O n d) (F : Sta Z h O n d v) (hd : decode bytes pc = .ok (.getstatic idx, 3)) (hp : pc + 3 = pc') (K : ∀ T, W Γ n0 T h C S sf → Go Γ n0 Q T (mkF Γ.m pc' Ls (v :: st))) : Go Γ n0 Q T (mkF Γ.m pc Ls st) := by
  subst hp
  obtain ⟨hx, hZ0, hown0, hby, hml, hret, hnm, hlk, hR, hsH, hzz, hel, hew⟩ := G
  subst hzz hel
  obtain ⟨aw, hew⟩ := hew
  obtain ⟨L, vm0, k0, X, e, N, hS, hk, HD⟩ := X
  have hZ : Γ.Z.Warmed39 (Γ.s.setVm vm0).vm := State.Warmed39.trans hZ0 hS.1
  have hown : (Γ.s.setVm vm0).vm.findClass own = some Γ.m.cls := by rw [show (Γ.s.setVm vm0).vm = vm0 from rfl, hS.1.alike.findClass]; exact hown0
  obtain ⟨T', X', e', st'⟩ := getS2 X hx hZ hown w via e F (g := mkF Γ.m pc Ls st) rfl (hb hby hd)
  exact Go.of st' (K T' ⟨L, vm0, k0, X', e', N, hS, hk, HD⟩)
theorem k_getF {a0 : Array Value} {idx : Nat} {R0 O n d host : String} {v : Value} {a : Addr} (G : Ctx Γ Z EL own bytes maxl ret nm rm hs0) (X : W Γ n0 T h C S sf) (w : (Cond.fieldLink own idx R0 n d).before a0 Z = true ∨ (Cond.fieldLinkNest own idx R0 n d host).before a0 Z = true) (via : Via Z R0 O n d) (F : Fld Z h a O n d v) (hd : decode bytes pc = .ok (.getfield idx, 3)) (hp : pc + 3 = pc') (K : ∀ T, W Γ n0 T h C S sf → Go Γ n0 Q T (mkF Γ.m pc' Ls (v :: st))) : Go Γ n0 Q T (mkF Γ.m pc Ls (.ref a :: st)) := by
  subst hp
  obtain ⟨hx, hZ0, hown0, hby, hml, hret, hnm, hlk, hR, hsH, hzz, hel, hew⟩ := G
  subst hzz hel
  obtain ⟨aw, hew⟩ := hew
  obtain ⟨L, vm0, k0, X, e, N, hS, hk, HD⟩ := X
  have hZ : Γ.Z.Warmed39 (Γ.s.setVm vm0).vm := State.Warmed39.trans hZ0 hS.1
  have hown : (Γ.s.setVm vm0).vm.findClass own = some Γ.m.cls := by rw [show (Γ.s.setVm vm0).vm = vm0 from rfl, hS.1.alike.findClass]; exact hown0
  obtain ⟨T', X', e', st'⟩ := getF X hx hZ hown w via e F (g := mkF Γ.m pc Ls (.ref a :: st)) rfl rfl (hb hby hd)
  exact Go.of st' (K T' ⟨L, vm0, k0, X', e', N, hS, hk, HD⟩)
theorem k_putF {a0 : Array Value} {idx kk : Nat} {R0 O n d host CC : String} {v old : Value} {ty : FieldType} {a : Addr} (G : Ctx Γ Z EL own bytes maxl ret nm rm hs0) (X : W Γ n0 T h C S sf) (w : (Cond.fieldLink own idx R0 n d).before a0 Z = true ∨ (Cond.fieldLinkNest own idx R0 n d host).before a0 Z = true) (via : Via Z R0 O n d) (F : Fld Z h a O n d old) (E : Exa Z h a CC) (lay : (Cond.lays CC O n d).before a0 Z = true ∨ ((Cond.laysFinal CC O n d).before a0 Z = true ∧ own = O ∧ nm = "<init>")) (wi : (Cond.instantiable CC kk).before a0 Z = true) (ht : parseFieldDescriptor d = some ty) (hn : narrow ty v = v) (hf : fits ty v = true) (ga : n0 ≤ a) (ms : a ∈ sf) (hd : decode bytes pc = .ok (.putfield idx, 3)) (hp : pc + 3 = pc') (K : ∀ T h', Wr h h' a (Jvm.RoadKit.slotOf Z O n d) v → W Γ n0 T h' C S sf → Go Γ n0 Q T (mkF Γ.m pc' Ls st)) : Go Γ n0 Q T (mkF Γ.m pc Ls (v :: .ref a :: st)) := by
  subst hp
  obtain ⟨hx, hZ0, hown0, hby, hml, hret, hnm, hlk, hR, hsH, hzz, hel, hew⟩ := G
  subst hzz hel
  obtain ⟨aw, hew⟩ := hew
  obtain ⟨L, vm0, k0, X, e, N, hS, hk, HD⟩ := X
  have hZ : Γ.Z.Warmed39 (Γ.s.setVm vm0).vm := State.Warmed39.trans hZ0 hS.1
  have hown : (Γ.s.setVm vm0).vm.findClass own = some Γ.m.cls := by rw [show (Γ.s.setVm vm0).vm = vm0 from rfl, hS.1.alike.findClass]; exact hown0
  obtain ⟨T', h', X', e', W', st'⟩ := putF X hx hZ hown w via e F E (by rw [hnm]; exact lay) wi ht hn hf (g := mkF Γ.m pc Ls (v :: .ref a :: st)) rfl rfl (hb hby hd)
  exact Go.of st' (K T' h' W' ⟨_, vm0, k0, X', e', Fr.snoc X' N ga, hS, (by rw [W'.size]; exact hk), HD.wr W' ms⟩)
theorem k_putFN {a0 : Array Value} {idx kk : Nat} {R0 O n d CC : String} {v v' old : Value} {ty : FieldType} {a : Addr} (G : Ctx Γ Z EL own bytes maxl ret nm rm hs0) (X : W Γ n0 T h C S sf) (w : (Cond.fieldLink own idx R0 n d).before a0 Z = true) (via : Via Z R0 O n d) (F : Fld Z h a O n d old) (E : Exa Z h a CC) (lay : (Cond.lays CC O n d).before a0 Z = true ∨ ((Cond.laysFinal CC O n d).before a0 Z = true ∧ own = O ∧ nm = "<init>")) (wi : (Cond.instantiable CC kk).before a0 Z = true) (ht : parseFieldDescriptor d = some ty) (hn : narrow ty v = v') (hf : fits ty v' = true) (ga : n0 ≤ a) (ms : a ∈ sf) (hd : decode bytes pc = .ok (.putfield idx, 3)) (hp : pc + 3 = pc') (K : ∀ T h', Wr h h' a (Jvm.RoadKit.slotOf Z O n d) v' → W Γ n0 T h' C S sf → Go Γ n0 Q T (mkF Γ.m pc' Ls st)) : Go Γ n0 Q T (mkF Γ.m pc Ls (v :: .ref a :: st)) := by
  subst hp
  obtain ⟨hx, hZ0, hown0, hby, hml, hret, hnm, hlk, hR, hsH, hzz, hel, hew⟩ := G
  subst hzz hel
  obtain ⟨aw, hew⟩ := hew
  obtain ⟨L, vm0, k0, X, e, N, hS, hk, HD⟩ := X
  have hZ : Γ.Z.Warmed39 (Γ.s.setVm vm0).vm := State.Warmed39.trans hZ0 hS.1
  have hown : (Γ.s.setVm vm0).vm.findClass own = some Γ.m.cls := by rw [show (Γ.s.setVm vm0).vm = vm0 from rfl, hS.1.alike.findClass]; exact hown0
  obtain ⟨T', h', X', e', W', st'⟩ := putFN X hx hZ hown w via e F E (by rw [hnm]; exact lay) wi ht hn hf (g := mkF Γ.m pc Ls (v :: .ref a :: st)) rfl rfl (hb hby hd)
  exact Go.of st' (K T' h' W' ⟨_, vm0, k0, X', e', Fr.snoc X' N ga, hS, (by rw [W'.size]; exact hk), HD.wr W' ms⟩)
theorem k_new {a0 : Array Value} {idx k : Nat} {CC : String} (G : Ctx Γ Z EL own bytes maxl ret nm rm hs0) (X : W Γ n0 T h C S sf) (w : (Cond.classLink own idx CC).before a0 Z = true) (wi : (Cond.instantiable CC k).before a0 Z = true) (wz : (Cond.initialized CC).before a0 Z = true) (hd : decode bytes pc = .ok (.new idx, 3)) (hp : pc + 3 = pc') (hc : C + 1 ≤ rm.cells) (hs : S + k ≤ rm.slots)
    (K : ∀ T h' a, h.size = a → Ext h h' → Exa Z h' a CC → (∀ {O nm d : String} {ty : FieldType}, Laid Z a0 CC O nm d → parseFieldDescriptor d = some ty → Fld Z h' a O nm d (defaultValue ty)) → W Γ n0 T h' (C + 1) (S + k) (a :: sf) → Go Γ n0 Q T (mkF Γ.m pc' Ls (.ref a :: st))) : Go Γ n0 Q T (mkF Γ.m pc Ls st) := by
  subst hp
  obtain ⟨hx, hZ0, hown0, hby, hml, hret, hnm, hlk, hR, hsH, hzz, hel, hew⟩ := G
  subst hzz hel
  obtain ⟨aw, hew⟩ := hew
  obtain ⟨L, vm0, k0, X, e, N, hS, hk, HD⟩ := X
  have hZ : Γ.Z.Warmed39 (Γ.s.setVm vm0).vm := State.Warmed39.trans hZ0 hS.1
  have hown : (Γ.s.setVm vm0).vm.findClass own = some Γ.m.cls := by rw [show (Γ.s.setVm vm0).vm = vm0 from rfl, hS.1.alike.findClass]; exact hown0
  obtain ⟨T', h', X', e', E', A', D', -, st'⟩ := newO X hx hZ hown w wi wz e (g := mkF Γ.m pc Ls st) rfl (hb hby hd) (hR ▸ hc) (hR ▸ hs)
  exact Go.of st' (K T' h' _ rfl E' A' D' ⟨L, vm0, k0, X', e', N, hS, (Nat.le_trans hk E'.1), HD.new E' A'.lt⟩)
theorem k_initO {a0 : Array Value} {idx : Nat} {a : Addr} {wd : Nat} (G : Ctx Γ Z EL own bytes maxl ret nm rm hs0) (X : W Γ n0 T h C S sf) (w1 : (Cond.methodLink own idx Lib.objectInit).before a0 Z = true) (w2 : (Cond.instanceMethod Lib.objectInit).before a0 Z = true) (w3 : (Cond.code Lib.objectInit ⟨#[0xb1]⟩ 1 none).before a0 Z = true) (hd : decode bytes pc = .ok (.invokespecial idx, 3)) (hp : pc + 3 = pc') (hL : Ls.size = maxl) (hf : 1 ≤ rm.frames) (hwd : (st.map fun v => v.category).sum = wd) (hl : wd + 12 ≤ rm.locals) (K : ∀ T, W Γ n0 T h C S sf → Go Γ n0 Q T (mkF Γ.m pc' Ls st)) : Go Γ n0 Q T (mkF Γ.m pc Ls (.ref a :: st)) := by
  subst hp
  obtain ⟨hx, hZ0, hown0, hby, hml, hret, hnm, hlk, hR, hsH, hzz, hel, hew⟩ := G
  subst hzz hel
  obtain ⟨aw, hew⟩ := hew
  obtain ⟨L, vm0, k0, X, e, N, hS, hk, HD⟩ := X
  have hZ : Γ.Z.Warmed39 (Γ.s.setVm vm0).vm := State.Warmed39.trans hZ0 hS.1
  have hown : (Γ.s.setVm vm0).vm.findClass own = some Γ.m.cls := by rw [show (Γ.s.setVm vm0).vm = vm0 from rfl, hS.1.alike.findClass]; exact hown0
  obtain ⟨T', X', e', st'⟩ := initO X hx hZ hown w1 w2 w3 e (g := mkF Γ.m pc Ls (.ref a :: st)) rfl (by rw [hml]; exact hL) rfl (hb hby hd) (hR ▸ hf) (W := wd) (by show 2 * 0 + _ ≤ _; omega) (hR ▸ hl)
  exact Go.of st' (K T' ⟨L, vm0, k0, X', e', N, hS, hk, HD⟩)
theorem k_castY {a0 : Array Value} {idx : Nat} {KK : String} {a : Addr} (G : Ctx Γ Z EL own bytes maxl ret nm rm hs0) (X : W Γ n0 T h C S sf) (w : (Cond.classLink own idx KK).before a0 Z = true) (F : Ins Z h a KK true) (hd : decode bytes pc = .ok (.checkcast idx, 3)) (hp : pc + 3 = pc') (K : ∀ T, W Γ n0 T h C S sf → Go Γ n0 Q T (mkF Γ.m pc' Ls (.ref a :: st))) : Go Γ n0 Q T (mkF Γ.m pc Ls (.ref a :: st)) := by
  subst hp
  obtain ⟨hx, hZ0, hown0, hby, hml, hret, hnm, hlk, hR, hsH, hzz, hel, hew⟩ := G
  subst hzz hel
  obtain ⟨aw, hew⟩ := hew
  obtain ⟨L, vm0, k0, X, e, N, hS, hk, HD⟩ := X
  have hZ : Γ.Z.Warmed39 (Γ.s.setVm vm0).vm := State.Warmed39.trans hZ0 hS.1
  have hown : (Γ.s.setVm vm0).vm.findClass own = some Γ.m.cls := by rw [show (Γ.s.setVm vm0).vm = vm0 from rfl, hS.1.alike.findClass]; exact hown0
  obtain ⟨T', X', e', st'⟩ := castY X hx hZ hown w e F (g := mkF Γ.m pc Ls (.ref a :: st)) rfl rfl (hb hby hd)
  exact Go.of st' (K T' ⟨L, vm0, k0, X', e', N, hS, hk, HD⟩)
theorem k_instY {a0 : Array Value} {idx : Nat} {KK : String} {a : Addr} (G : Ctx Γ Z EL own bytes maxl ret nm rm hs0) (X : W Γ n0 T h C S sf) (w : (Cond.classLink own idx KK).before a0 Z = true) (F : Ins Z h a KK true) (hd : decode bytes pc = .ok (.instanceof idx, 3)) (hp : pc + 3 = pc') (K : ∀ T, W Γ n0 T h C S sf → Go Γ n0 Q T (mkF Γ.m pc' Ls (.int 1 :: st))) : Go Γ n0 Q T (mkF Γ.m pc Ls (.ref a :: st)) := by
  subst hp
  obtain ⟨hx, hZ0, hown0, hby, hml, hret, hnm, hlk, hR, hsH, hzz, hel, hew⟩ := G
  subst hzz hel
  obtain ⟨aw, hew⟩ := hew
  obtain ⟨L, vm0, k0, X, e, N, hS, hk, HD⟩ := X
  have hZ : Γ.Z.Warmed39 (Γ.s.setVm vm0).vm := State.Warmed39.trans hZ0 hS.1
  have hown : (Γ.s.setVm vm0).vm.findClass own = some Γ.m.cls := by rw [show (Γ.s.setVm vm0).vm = vm0 from rfl, hS.1.alike.findClass]; exact hown0
  obtain ⟨T', X', e', st'⟩ := instY X hx hZ hown w e F (g := mkF Γ.m pc Ls (.ref a :: st)) rfl rfl (hb hby hd)
  exact Go.of st' (K T' ⟨L, vm0, k0, X', e', N, hS, hk, HD⟩)
theorem W.drop {sf' : List Addr} (X : W Γ n0 T h C S (sf' ++ sf)) : W Γ n0 T h C S sf := by
  obtain ⟨L, v, k, X, e, N, a, b, H⟩ := X
  exact ⟨L, v, k, X, e, N, a, b, H.1, fun x hx => H.2 x (List.mem_append_right _ hx)⟩
theorem W.sub {sf' : List Addr} (X : W Γ n0 T h C S sf') (q : ∀ x ∈ sf, x ∈ sf') : W Γ n0 T h C S sf := by
  obtain ⟨L, v, k, X, e, N, a, b, H⟩ := X
  exact ⟨L, v, k, X, e, N, a, b, H.1, fun x hx => H.2 x (q x hx)⟩
theorem W.only {sf' : List Addr} {x : Addr} (X : W Γ n0 T h C S (sf' ++ sf)) (q : x ∈ sf') : W Γ n0 T h C S (x :: sf) := X.sub fun y hy => by
  rcases List.mem_cons.mp hy with rfl | hy
  · exact List.mem_append_left _ q
  · exact List.mem_append_right _ hy
theorem W.addE {x : Addr} {CC : String} (G : Ctx Γ Z EL own bytes maxl ret nm rm hs0) (X : W Γ n0 T h C S sf) (E : Exa Z h x CC) (h1 : CC ≠ "java/lang/String") (h2 : CC ≠ "[B") : W Γ n0 T h C S (x :: sf) := by
  obtain ⟨hx, hZ0, hown0, hby, hml, hret, hnm, hlk, hR, hsH, hzz, hel, hew⟩ := G
  subst hzz hel
  obtain ⟨L, v, k, X, e, N, a, b, H⟩ := X
  refine ⟨L, v, k, X, e, N, a, b, H.1, fun y hy => ?_⟩
  rcases List.mem_cons.mp hy with rfl | hy
  · exact ⟨E.lt, Safe.exa (State.Warmed39.trans hZ0 a.1).alike E h1 h2⟩
  · exact H.2 y hy
theorem backHeld {l : Launch} {R : Room} {p : Program} {e : Env} {below : List Frame} {s : State} {args : Array Value} {vm0 : Vm} {a0 a1 : Array Value} {y : MethodName} {maxL len Wd : Nat} {as' : Array Value} (hM : Met Z EL sf y bytes maxL ret rm as' h n0 Q) (hZ : Z.Warmed39 vm0) (wc : (Cond.code y bytes maxL ret).before a0 Z = true) (wz : (Cond.initialized y.cls).before a0 Z = true) (hf : rm.frames + 1 ≤ R.frames) (hl : Wd + (maxL + 11) + rm.locals ≤ R.locals) (hEL : EW Z a1 EL) (H : CHv Z EL vm0 h) (hs : ∀ x ∈ sf, x < h.size ∧ Safe Z EL vm0 h x) :
    BackS l R p e below (s.setVm vm0) args y len Wd (fun A a => a = as' ∧ A.U.heap = h ∧ A.cells + rm.cells ≤ R.cells ∧ A.slots + rm.slots ≤ R.slots)
      (fun A _ v B => ∃ L, ((∃ sf', Q v B.U.heap sf' ∧ ∀ x ∈ sf', x < B.U.heap.size ∧ Safe Z EL B.U.vm B.U.heap x) ∧ Fr n0 L) ∧ B.locs = A.locs ++ L ∧ B.cells = A.cells + rm.cells ∧ B.slots = A.slots + rm.slots ∧ CHr Z EL vm0 h B.U.vm B.U.heap) := by
  refine BackS.of_freeW (bytes := bytes) (maxL := maxL) (ret := ret) (E := fun _ U o U' L k n => k = rm.cells ∧ n = rm.slots ∧ (∃ v, o = .returned v ∧ (∃ sf', Q v U'.heap sf' ∧ ∀ x ∈ sf', x < U'.heap.size ∧ Safe Z EL U'.vm U'.heap x) ∧ Fr n0 L) ∧ CHr Z EL U.vm U.heap U'.vm U'.heap) (hM l) hf hl ?_ ?_ ?_ ?_ ?_
  · intro m meth c A a Y hp
    have hU : Z.Warmed39 A.U.vm := wtrans (s := s.setVm vm0) hZ Y.warmed
    exact ⟨by show (Cond.and _ .tt).before a A.U = true; rw [Cond.before_and, mv hU wc]; rfl, mv hU wc, mv hU wz, hp.2.2.1, hp.2.2.2⟩
  · intro m meth c A a g mk Y hp
    have AT := CHv.at (h := h) Y hZ hEL H
    exact ⟨hp.1, wtrans (s := s.setVm vm0) hZ Y.warmed, hp.2.1, AT.1, fun x hx => ⟨(hs x hx).1, AT.safe (hs x hx).1 (hs x hx).2⟩⟩
  · intros; trivial
  · rintro _ _ _ _ ⟨v, L, h1, h2, h3, h4⟩
    exact ⟨L, _, _, h4, rfl, rfl, ⟨v, h1, h2⟩, h3⟩
  · rintro m meth c A a g mk v t L k n Y hp - - ⟨e1, e2, ⟨v', e3, e4⟩, e5⟩
    cases e3; subst e1 e2
    refine ⟨L, e4, rfl, rfl, rfl, (CHv.at Y hZ hEL H).trans ?_⟩
    rw [← hp.2.1]; exact e5
theorem k_callS {a0 : Array Value} {idx : Nat} {y : MethodName} {by' : ByteArray} {maxL' : Nat} {ret' : Option FieldType} {rm' : Room} {ps : List FieldType} {rt : Option FieldType} {wd : Nat} {QY : Option Value → Heap → List Addr → Prop} {argsL rest : List Value} (G : Ctx Γ Z EL own bytes maxl ret nm rm hs0) (X : W Γ n0 T h C S sf) (hst : st = argsL.reverse ++ rest) (w1 : (Cond.methodLink own idx y).before a0 Z = true) (w2 : (Cond.static y).before a0 Z = true) (wz : (Cond.initialized y.cls).before a0 Z = true) (wc : (Cond.code y by' maxL' ret').before a0 Z = true) (hy : y.cls ≠ "java/lang/invoke/MethodHandle" ∧ y.cls ≠ "java/lang/invoke/VarHandle") (M : Met Z EL sf y by' maxL' ret' rm' argsL.toArray h n0 QY) (hd : decode bytes pc = .ok (.invokestatic idx, 3)) (pd : parseMethodDescriptor y.desc = some ⟨ps, rt⟩) (hn : argsL.length = ps.length) (hp : pc + 3 = pc') (hL : Ls.size = maxl) (hwd : (rest.map fun v => v.category).sum = wd) (hf : rm'.frames + 1 ≤ rm.frames) (hlo : wd + (maxL' + 11) + rm'.locals ≤ rm.locals) (hc : C + rm'.cells ≤ rm.cells) (hs : S + rm'.slots ≤ rm.slots) (K : ∀ T h' v sf', W Γ n0 T h' (C + rm'.cells) (S + rm'.slots) (sf' ++ sf) → QY v h' sf' → Go Γ n0 Q T (mkF Γ.m pc' Ls (v.toList ++ rest))) : Go Γ n0 Q T (mkF Γ.m pc Ls st) := by
  subst hp hst
  obtain ⟨hx, hZ0, hown0, hby, hml, hret, hnm, hlk, hR, hsH, hzz, hel, hew⟩ := G
  subst hzz hel
  obtain ⟨aw, hew⟩ := hew
  obtain ⟨L, vm0, k0, X, e, N, hS, hk, HD⟩ := X
  have hZ : Γ.Z.Warmed39 (Γ.s.setVm vm0).vm := State.Warmed39.trans hZ0 hS.1
  have hown : (Γ.s.setVm vm0).vm.findClass own = some Γ.m.cls := by rw [show (Γ.s.setVm vm0).vm = vm0 from rfl, hS.1.alike.findClass]; exact hown0
  obtain ⟨v1, _, ⟨T1, L1, k1, n1⟩, -, X1, hS1, hg1, ⟨Lc1, q1, l1, y1, z1, c1⟩, s1⟩ := callSS X hx hown (mvT hZ w1) (mvT hZ w2) (mvT hZ wz) (mvT hZ wc) hy (backHeld (Wd := wd) M hZ wc wz (hR ▸ hf) (hR ▸ hlo) hew HD.1.1 HD.2) (g := mkF Γ.m pc Ls (argsL.reverse ++ rest)) rfl (by rw [hml]; exact hL) (argsL := argsL) (rest := rest) (lenOf pd hn) rfl (by show 2 * 0 + _ ≤ _; omega) (hb hby hd) (fun _ _ => ⟨rfl, e, hR ▸ hc, hR ▸ hs⟩)
  dsimp only [Pt.U, Pt.locs, Pt.cells, Pt.slots] at X1 hS1 hg1 l1 y1 z1 s1 q1 c1
  subst l1 y1 z1
  obtain ⟨⟨sf1, q1, f1⟩, N1⟩ := q1
  exact Go.of (fun t k => s1.trans k) (K T1 _ v1 sf1 ⟨_, _, _, X1, rfl, Fr.app N N1, foldS hS (by rw [e]; exact hk) hS1 hg1, Nat.le_refl _, HD.1.trans c1, fun x hx => (List.mem_append.mp hx).elim (f1 x) fun m => ⟨Nat.lt_of_lt_of_le (HD.2 x m).1 c1.2.1, c1.safe (HD.2 x m).1 (HD.2 x m).2⟩⟩ q1)
theorem k_callI {a0 : Array Value} {idx : Nat} {y : MethodName} {by' : ByteArray} {maxL' : Nat} {rm' : Room} {ps : List FieldType} {rt : Option FieldType} {wd : Nat} {QY : Option Value → Heap → List Addr → Prop} {argsL rest : List Value} {a : Addr} (G : Ctx Γ Z EL own bytes maxl ret nm rm hs0) (X : W Γ n0 T h C S sf) (hst : st = argsL.reverse ++ .ref a :: rest) (hy1 : y.name = "<init>") (w1 : (Cond.methodLink own idx y).before a0 Z = true) (w2 : (Cond.instanceMethod y).before a0 Z = true) (wz : (Cond.initialized y.cls).before a0 Z = true) (wc : (Cond.code y by' maxL' none).before a0 Z = true) (hy : y.cls ≠ "java/lang/invoke/MethodHandle" ∧ y.cls ≠ "java/lang/invoke/VarHandle") (M : Met Z EL sf y by' maxL' none rm' (.ref a :: argsL).toArray h n0 QY) (hd : decode bytes pc = .ok (.invokespecial idx, 3)) (pd : parseMethodDescriptor y.desc = some ⟨ps, rt⟩) (hn : argsL.length = ps.length) (hp : pc + 3 = pc') (hL : Ls.size = maxl) (hwd : (rest.map fun v => v.category).sum = wd) (hf : rm'.frames + 1 ≤ rm.frames) (hlo : wd + (maxL' + 11) + rm'.locals ≤ rm.locals) (hc : C + rm'.cells ≤ rm.cells) (hs : S + rm'.slots ≤ rm.slots) (K : ∀ T h' v sf', W Γ n0 T h' (C + rm'.cells) (S + rm'.slots) (sf' ++ sf) → QY v h' sf' → Go Γ n0 Q T (mkF Γ.m pc' Ls (v.toList ++ rest))) : Go Γ n0 Q T (mkF Γ.m pc Ls st) := by
  subst hp hst
  obtain ⟨hx, hZ0, hown0, hby, hml, hret, hnm, hlk, hR, hsH, hzz, hel, hew⟩ := G
  subst hzz hel
  obtain ⟨aw, hew⟩ := hew
  obtain ⟨L, vm0, k0, X, e, N, hS, hk, HD⟩ := X
  have hZ : Γ.Z.Warmed39 (Γ.s.setVm vm0).vm := State.Warmed39.trans hZ0 hS.1
  have hown : (Γ.s.setVm vm0).vm.findClass own = some Γ.m.cls := by rw [show (Γ.s.setVm vm0).vm = vm0 from rfl, hS.1.alike.findClass]; exact hown0
  obtain ⟨v1, _, ⟨T1, L1, k1, n1⟩, -, X1, hS1, hg1, ⟨Lc1, q1, l1, y1, z1, c1⟩, s1⟩ := X.specialBackS hx hy1 hown (mvT hZ w1) (mvT hZ w2) (mvT hZ wc) hy (backHeld (Wd := wd) M hZ wc wz (hR ▸ hf) (hR ▸ hlo) hew HD.1.1 HD.2) (g := mkF Γ.m pc Ls (argsL.reverse ++ .ref a :: rest)) rfl (by rw [hml]; exact hL) (Steps.refl _) (a := a) (argsL := argsL) (rest := rest) (lenOf pd hn) rfl (by show 2 * 0 + _ ≤ _; omega) (hb hby hd) (fun _ _ => ⟨rfl, e, hR ▸ hc, hR ▸ hs⟩)
  dsimp only [Pt.U, Pt.locs, Pt.cells, Pt.slots] at X1 hS1 hg1 l1 y1 z1 s1 q1 c1
  subst l1 y1 z1
  obtain ⟨⟨sf1, q1, f1⟩, N1⟩ := q1
  exact Go.of (fun t k => s1.trans k) (K T1 _ v1 sf1 ⟨_, _, _, X1, rfl, Fr.app N N1, foldS hS (by rw [e]; exact hk) hS1 hg1, Nat.le_refl _, HD.1.trans c1, fun x hx => (List.mem_append.mp hx).elim (f1 x) fun m => ⟨Nat.lt_of_lt_of_le (HD.2 x m).1 c1.2.1, c1.safe (HD.2 x m).1 (HD.2 x m).2⟩⟩ q1)
theorem k_callV {a0 : Array Value} {idx : Nat} {y : MethodName} {by' : ByteArray} {maxL' : Nat} {ret' : Option FieldType} {rm' : Room} {ps : List FieldType} {rt : Option FieldType} {wd : Nat} {QY : Option Value → Heap → List Addr → Prop} {argsL rest : List Value} {a : Addr} {CC : String} {z : MethodName} (G : Ctx Γ Z EL own bytes maxl ret nm rm hs0) (X : W Γ n0 T h C S sf) (hst : st = argsL.reverse ++ .ref a :: rest) (E : Exa Z h a CC) (w1 : (Cond.methodLink own idx y).before a0 Z = true) (w2 : (Cond.declares y).before a0 Z = true) (nf : ∀ s : State, Z.Warmed39 s.vm → NotFace s y) (w3 : (Cond.selects CC y z).before a0 Z = true) (w4 : (Cond.instanceMethod z).before a0 Z = true) (wz : (Cond.initialized z.cls).before a0 Z = true) (wc : (Cond.code z by' maxL' ret').before a0 Z = true) (hy : y.cls ≠ "java/lang/invoke/MethodHandle" ∧ y.cls ≠ "java/lang/invoke/VarHandle") (M : Met Z EL sf z by' maxL' ret' rm' (.ref a :: argsL).toArray h n0 QY) (hd : decode bytes pc = .ok (.invokevirtual idx, 3)) (pd : parseMethodDescriptor y.desc = some ⟨ps, rt⟩) (hn : argsL.length = ps.length) (hp : pc + 3 = pc') (hL : Ls.size = maxl) (hwd : (rest.map fun v => v.category).sum = wd) (hf : rm'.frames + 1 ≤ rm.frames) (hlo : wd + (maxL' + 11) + rm'.locals ≤ rm.locals) (hc : C + rm'.cells ≤ rm.cells) (hs : S + rm'.slots ≤ rm.slots) (K : ∀ T h' v sf', W Γ n0 T h' (C + rm'.cells) (S + rm'.slots) (sf' ++ sf) → QY v h' sf' → Go Γ n0 Q T (mkF Γ.m pc' Ls (v.toList ++ rest))) : Go Γ n0 Q T (mkF Γ.m pc Ls st) := by
  subst hp hst
  obtain ⟨hx, hZ0, hown0, hby, hml, hret, hnm, hlk, hR, hsH, hzz, hel, hew⟩ := G
  subst hzz hel
  obtain ⟨aw, hew⟩ := hew
  obtain ⟨L, vm0, k0, X, e, N, hS, hk, HD⟩ := X
  have hZ : Γ.Z.Warmed39 (Γ.s.setVm vm0).vm := State.Warmed39.trans hZ0 hS.1
  have hown : (Γ.s.setVm vm0).vm.findClass own = some Γ.m.cls := by rw [show (Γ.s.setVm vm0).vm = vm0 from rfl, hS.1.alike.findClass]; exact hown0
  obtain ⟨cq, kq, qa, qb, qc⟩ := isOf hZ e E
  obtain ⟨v1, _, ⟨T1, L1, k1, n1⟩, -, X1, hS1, hg1, ⟨Lc1, q1, l1, y1, z1, c1⟩, s1⟩ := X.virtualBackS hx hown (mvT hZ w1) (mvT hZ w2) (nf _ hZ) (mvT hZ w3) (mvT hZ w4) hy (backHeld (Wd := wd) M hZ wc wz (hR ▸ hf) (hR ▸ hlo) hew HD.1.1 HD.2) qa qc (g := mkF Γ.m pc Ls (argsL.reverse ++ .ref a :: rest)) rfl (by rw [hml]; exact hL) (Steps.refl _) (argsL := argsL) (rest := rest) (lenOf pd hn) rfl (by show 2 * 0 + _ ≤ _; omega) (hb hby hd) (fun _ _ => ⟨rfl, e, hR ▸ hc, hR ▸ hs⟩)
  dsimp only [Pt.U, Pt.locs, Pt.cells, Pt.slots] at X1 hS1 hg1 l1 y1 z1 s1 q1 c1
  subst l1 y1 z1
  obtain ⟨⟨sf1, q1, f1⟩, N1⟩ := q1
  exact Go.of (fun t k => s1.trans k) (K T1 _ v1 sf1 ⟨_, _, _, X1, rfl, Fr.app N N1, foldS hS (by rw [e]; exact hk) hS1 hg1, Nat.le_refl _, HD.1.trans c1, fun x hx => (List.mem_append.mp hx).elim (f1 x) fun m => ⟨Nat.lt_of_lt_of_le (HD.2 x m).1 c1.2.1, c1.safe (HD.2 x m).1 (HD.2 x m).2⟩⟩ q1)
theorem nf_sel {a0 : Array Value} {CC : String} {y : MethodName} (w3 : (Cond.selects CC y y).before a0 Z = true) : ∀ s : State, Z.Warmed39 s.vm → NotFace s y := fun s hZ => notFace_of_selects (args := #[]) (mvT hZ w3)
theorem k_callVU {a0 : Array Value} {idx : Nat} {y : MethodName} {by' : ByteArray} {maxL' : Nat} {ret' : Option FieldType} {rm' : Room} {ps : List FieldType} {rt : Option FieldType} {wd : Nat} {QY : Option Value → Heap → List Addr → Prop} {argsL rest : List Value} {a : Addr} {CC owner : String} {z : MethodName} (G : Ctx Γ Z EL own bytes maxl ret nm rm hs0) (X : W Γ n0 T h C S sf) (hst : st = argsL.reverse ++ .ref a :: rest) (E : Exa Z h a CC) (w1 : (Cond.methodLink own idx y).before a0 Z = true) (ws : (Cond.sameMethod y.cls owner y.name y.desc).before a0 Z = true) (w2 : (Cond.declares ⟨owner, y.name, y.desc⟩).before a0 Z = true) (w3 : (Cond.selects CC y z).before a0 Z = true) (w4 : (Cond.instanceMethod z).before a0 Z = true) (wz : (Cond.initialized z.cls).before a0 Z = true) (wc : (Cond.code z by' maxL' ret').before a0 Z = true) (hy : owner ≠ "java/lang/invoke/MethodHandle" ∧ owner ≠ "java/lang/invoke/VarHandle") (M : Met Z EL sf z by' maxL' ret' rm' (.ref a :: argsL).toArray h n0 QY) (hd : decode bytes pc = .ok (.invokevirtual idx, 3)) (pd : parseMethodDescriptor y.desc = some ⟨ps, rt⟩) (hn : argsL.length = ps.length) (hp : pc + 3 = pc') (hL : Ls.size = maxl) (hwd : (rest.map fun v => v.category).sum = wd) (hf : rm'.frames + 1 ≤ rm.frames) (hlo : wd + (maxL' + 11) + rm'.locals ≤ rm.locals) (hc : C + rm'.cells ≤ rm.cells) (hs : S + rm'.slots ≤ rm.slots) (K : ∀ T h' v sf', W Γ n0 T h' (C + rm'.cells) (S + rm'.slots) (sf' ++ sf) → QY v h' sf' → Go Γ n0 Q T (mkF Γ.m pc' Ls (v.toList ++ rest))) : Go Γ n0 Q T (mkF Γ.m pc Ls st) := by
  subst hp hst
  obtain ⟨hx, hZ0, hown0, hby, hml, hret, hnm, hlk, hR, hsH, hzz, hel, hew⟩ := G
  subst hzz hel
  obtain ⟨aw, hew⟩ := hew
  obtain ⟨L, vm0, k0, X, e, N, hS, hk, HD⟩ := X
  have hZ : Γ.Z.Warmed39 (Γ.s.setVm vm0).vm := State.Warmed39.trans hZ0 hS.1
  have hown : (Γ.s.setVm vm0).vm.findClass own = some Γ.m.cls := by rw [show (Γ.s.setVm vm0).vm = vm0 from rfl, hS.1.alike.findClass]; exact hown0
  obtain ⟨cq, kq, qa, qb, qc⟩ := isOf hZ e E
  obtain ⟨v1, _, ⟨T1, L1, k1, n1⟩, -, X1, hS1, hg1, ⟨Lc1, q1, l1, y1, z1, c1⟩, s1⟩ := X.virtualBackUpS hx hown (mvT hZ w1) (mvT hZ ws) (mvT hZ w2) hy (mvT hZ w3) (mvT hZ w4) (backHeld (Wd := wd) M hZ wc wz (hR ▸ hf) (hR ▸ hlo) hew HD.1.1 HD.2) qa qc (g := mkF Γ.m pc Ls (argsL.reverse ++ .ref a :: rest)) rfl (by rw [hml]; exact hL) (Steps.refl _) (argsL := argsL) (rest := rest) (lenOf pd hn) rfl (by show 2 * 0 + _ ≤ _; omega) (hb hby hd) (fun _ _ => ⟨rfl, e, hR ▸ hc, hR ▸ hs⟩)
  dsimp only [Pt.U, Pt.locs, Pt.cells, Pt.slots] at X1 hS1 hg1 l1 y1 z1 s1 q1 c1
  subst l1 y1 z1
  obtain ⟨⟨sf1, q1, f1⟩, N1⟩ := q1
  exact Go.of (fun t k => s1.trans k) (K T1 _ v1 sf1 ⟨_, _, _, X1, rfl, Fr.app N N1, foldS hS (by rw [e]; exact hk) hS1 hg1, Nat.le_refl _, HD.1.trans c1, fun x hx => (List.mem_append.mp hx).elim (f1 x) fun m => ⟨Nat.lt_of_lt_of_le (HD.2 x m).1 c1.2.1, c1.safe (HD.2 x m).1 (HD.2 x m).2⟩⟩ q1)
theorem k_callF {a0 : Array Value} {idx : Nat} {y : MethodName} {by' : ByteArray} {maxL' : Nat} {ret' : Option FieldType} {rm' : Room} {ps : List FieldType} {rt : Option FieldType} {wd : Nat} {QY : Option Value → Heap → List Addr → Prop} {argsL rest : List Value} {a : Addr} {CC : String} {z : MethodName} {cnt : Nat} (G : Ctx Γ Z EL own bytes maxl ret nm rm hs0) (X : W Γ n0 T h C S sf) (hst : st = argsL.reverse ++ .ref a :: rest) (E : Exa Z h a CC) (w1 : (Cond.methodLink own idx y).before a0 Z = true) (w2 : (Cond.declares y).before a0 Z = true) (wf : (Cond.interfaceMethod y.cls y.cls y.name y.desc).before a0 Z = true) (hwf : ((Cond.interfaceMethod y.cls y.cls y.name y.desc).onTables && (Cond.interfaceMethod y.cls y.cls y.name y.desc).keepsFace) = true) (w3 : (Cond.selects CC y z).before a0 Z = true) (w4 : (Cond.instanceMethod z).before a0 Z = true) (wp : (Cond.publicMethod z).before a0 Z = true) (wu : (Cond.unhidden CC y.name y.desc).before a0 Z = true) (wk : (Cond.castable CC y.cls).before a0 Z = true) (wz : (Cond.initialized z.cls).before a0 Z = true) (wc : (Cond.code z by' maxL' ret').before a0 Z = true) (hy : y.cls ≠ "java/lang/invoke/MethodHandle" ∧ y.cls ≠ "java/lang/invoke/VarHandle") (M : Met Z EL sf z by' maxL' ret' rm' (.ref a :: argsL).toArray h n0 QY) (hd : decode bytes pc = .ok (.invokeinterface idx cnt, 5)) (pd : parseMethodDescriptor y.desc = some ⟨ps, rt⟩) (hn : argsL.length = ps.length) (hp : pc + 5 = pc') (hL : Ls.size = maxl) (hwd : (rest.map fun v => v.category).sum = wd) (hf : rm'.frames + 1 ≤ rm.frames) (hlo : wd + (maxL' + 11) + rm'.locals ≤ rm.locals) (hc : C + rm'.cells ≤ rm.cells) (hs : S + rm'.slots ≤ rm.slots) (K : ∀ T h' v sf', W Γ n0 T h' (C + rm'.cells) (S + rm'.slots) (sf' ++ sf) → QY v h' sf' → Go Γ n0 Q T (mkF Γ.m pc' Ls (v.toList ++ rest))) : Go Γ n0 Q T (mkF Γ.m pc Ls st) := by
  subst hp hst
  obtain ⟨hx, hZ0, hown0, hby, hml, hret, hnm, hlk, hR, hsH, hzz, hel, hew⟩ := G
  subst hzz hel
  obtain ⟨aw, hew⟩ := hew
  obtain ⟨L, vm0, k0, X, e, N, hS, hk, HD⟩ := X
  have hZ : Γ.Z.Warmed39 (Γ.s.setVm vm0).vm := State.Warmed39.trans hZ0 hS.1
  have hown : (Γ.s.setVm vm0).vm.findClass own = some Γ.m.cls := by rw [show (Γ.s.setVm vm0).vm = vm0 from rfl, hS.1.alike.findClass]; exact hown0
  obtain ⟨cq, kq, qa, qb, qc⟩ := isOf hZ e E
  obtain ⟨v1, _, ⟨T1, L1, k1, n1⟩, -, X1, hS1, hg1, ⟨Lc1, q1, l1, y1, z1, c1⟩, s1⟩ := X.interfaceBackS hx hown (mvT hZ w1) (mvT hZ w2) (mvT hZ wf hwf) (mvT hZ w3) (mvT hZ w4) (mvT hZ wp) (mvT hZ wu) (mvT hZ wk) hy (backHeld (Wd := wd) M hZ wc wz (hR ▸ hf) (hR ▸ hlo) hew HD.1.1 HD.2) qa qb qc (g := mkF Γ.m pc Ls (argsL.reverse ++ .ref a :: rest)) rfl (by rw [hml]; exact hL) (Steps.refl _) (argsL := argsL) (rest := rest) (lenOf pd hn) rfl (by show 2 * 0 + _ ≤ _; omega) (hb hby hd) (fun _ _ => ⟨rfl, e, hR ▸ hc, hR ▸ hs⟩)
  dsimp only [Pt.U, Pt.locs, Pt.cells, Pt.slots] at X1 hS1 hg1 l1 y1 z1 s1 q1 c1
  subst l1 y1 z1
  obtain ⟨⟨sf1, q1, f1⟩, N1⟩ := q1
  exact Go.of (fun t k => s1.trans k) (K T1 _ v1 sf1 ⟨_, _, _, X1, rfl, Fr.app N N1, foldS hS (by rw [e]; exact hk) hS1 hg1, Nat.le_refl _, HD.1.trans c1, fun x hx => (List.mem_append.mp hx).elim (f1 x) fun m => ⟨Nat.lt_of_lt_of_le (HD.2 x m).1 c1.2.1, c1.safe (HD.2 x m).1 (HD.2 x m).2⟩⟩ q1)
theorem k_callP {a0 : Array Value} {idx : Nat} {y : MethodName} {by' : ByteArray} {maxL' : Nat} {ret' : Option FieldType} {rm' : Room} {ps : List FieldType} {rt : Option FieldType} {wd : Nat} {QY : Option Value → Heap → List Addr → Prop} {argsL rest : List Value} {a : Addr} {CC : String} (G : Ctx Γ Z EL own bytes maxl ret nm rm hs0) (X : W Γ n0 T h C S sf) (hst : st = argsL.reverse ++ .ref a :: rest) (E : Exa Z h a CC) (w1 : (Cond.methodLink own idx y).before a0 Z = true) (w2 : (Cond.instanceMethod y).before a0 Z = true) (w3 : (Cond.selects y.cls y y).before a0 Z = true) (wp : (Cond.privateMethod y).before a0 Z = true) (wz : (Cond.initialized y.cls).before a0 Z = true) (wc : (Cond.code y by' maxL' ret').before a0 Z = true) (hy : y.cls ≠ "java/lang/invoke/MethodHandle" ∧ y.cls ≠ "java/lang/invoke/VarHandle") (M : Met Z EL sf y by' maxL' ret' rm' (.ref a :: argsL).toArray h n0 QY) (hd : decode bytes pc = .ok (.invokevirtual idx, 3)) (pd : parseMethodDescriptor y.desc = some ⟨ps, rt⟩) (hn : argsL.length = ps.length) (hp : pc + 3 = pc') (hL : Ls.size = maxl) (hwd : (rest.map fun v => v.category).sum = wd) (hf : rm'.frames + 1 ≤ rm.frames) (hlo : wd + (maxL' + 11) + rm'.locals ≤ rm.locals) (hc : C + rm'.cells ≤ rm.cells) (hs : S + rm'.slots ≤ rm.slots) (K : ∀ T h' v sf', W Γ n0 T h' (C + rm'.cells) (S + rm'.slots) (sf' ++ sf) → QY v h' sf' → Go Γ n0 Q T (mkF Γ.m pc' Ls (v.toList ++ rest))) : Go Γ n0 Q T (mkF Γ.m pc Ls st) := by
  subst hp hst
  obtain ⟨hx, hZ0, hown0, hby, hml, hret, hnm, hlk, hR, hsH, hzz, hel, hew⟩ := G
  subst hzz hel
  obtain ⟨aw, hew⟩ := hew
  obtain ⟨L, vm0, k0, X, e, N, hS, hk, HD⟩ := X
  have hZ : Γ.Z.Warmed39 (Γ.s.setVm vm0).vm := State.Warmed39.trans hZ0 hS.1
  have hown : (Γ.s.setVm vm0).vm.findClass own = some Γ.m.cls := by rw [show (Γ.s.setVm vm0).vm = vm0 from rfl, hS.1.alike.findClass]; exact hown0
  obtain ⟨cq, qa, qb⟩ := E.cell
  obtain ⟨v1, _, ⟨T1, L1, k1, n1⟩, -, X1, hS1, hg1, ⟨Lc1, q1, l1, y1, z1, c1⟩, s1⟩ := X.privateBackS hx hown (mvT hZ w1) (mvT hZ w2) (mvT hZ w3) (Cond.privateMethod_at (mvP hZ wp (args := #[]))) (mvT hZ wc) hy (backHeld (Wd := wd) M hZ wc wz (hR ▸ hf) (hR ▸ hlo) hew HD.1.1 HD.2) (g := mkF Γ.m pc Ls (argsL.reverse ++ .ref a :: rest)) rfl (by rw [hml]; exact hL) (Steps.refl _) (a := a) (by rw [e]; exact qa) qb (argsL := argsL) (rest := rest) (lenOf pd hn) rfl (by show 2 * 0 + _ ≤ _; omega) (hb hby hd) (fun _ _ => ⟨rfl, e, hR ▸ hc, hR ▸ hs⟩)
  dsimp only [Pt.U, Pt.locs, Pt.cells, Pt.slots] at X1 hS1 hg1 l1 y1 z1 s1 q1 c1
  subst l1 y1 z1
  obtain ⟨⟨sf1, q1, f1⟩, N1⟩ := q1
  exact Go.of (fun t k => s1.trans k) (K T1 _ v1 sf1 ⟨_, _, _, X1, rfl, Fr.app N N1, foldS hS (by rw [e]; exact hk) hS1 hg1, Nat.le_refl _, HD.1.trans c1, fun x hx => (List.mem_append.mp hx).elim (f1 x) fun m => ⟨Nat.lt_of_lt_of_le (HD.2 x m).1 c1.2.1, c1.safe (HD.2 x m).1 (HD.2 x m).2⟩⟩ q1)
theorem k_callU {a0 : Array Value} {idx : Nat} {y : MethodName} {by' : ByteArray} {maxL' : Nat} {ret' : Option FieldType} {rm' : Room} {ps : List FieldType} {rt : Option FieldType} {wd : Nat} {QY : Option Value → Heap → List Addr → Prop} {argsL rest : List Value} {a : Addr} {KS : String} (G : Ctx Γ Z EL own bytes maxl ret nm rm hs0) (X : W Γ n0 T h C S sf) (hst : st = argsL.reverse ++ .ref a :: rest) (I : Ins Z h a KS true) (w1 : (Cond.methodLink own idx y).before a0 Z = true) (w2 : (Cond.sameMethod y.cls y.cls y.name y.desc).before a0 Z = true) (w3 : (Cond.instanceMethod y).before a0 Z = true) (w4 : (Cond.superclass own y.cls).before a0 Z = true) (hni : y.name ≠ "<init>") (wz : (Cond.initialized y.cls).before a0 Z = true) (wc : (Cond.code y by' maxL' ret').before a0 Z = true) (M : Met Z EL sf y by' maxL' ret' rm' (.ref a :: argsL).toArray h n0 QY) (hd : decode bytes pc = .ok (.invokespecial idx, 3)) (pd : parseMethodDescriptor y.desc = some ⟨ps, rt⟩) (hn : argsL.length = ps.length) (hp : pc + 3 = pc') (hL : Ls.size = maxl) (hwd : (rest.map fun v => v.category).sum = wd) (hf : rm'.frames + 1 ≤ rm.frames) (hlo : wd + (maxL' + 11) + rm'.locals ≤ rm.locals) (hc : C + rm'.cells ≤ rm.cells) (hs : S + rm'.slots ≤ rm.slots) (K : ∀ T h' v sf', W Γ n0 T h' (C + rm'.cells) (S + rm'.slots) (sf' ++ sf) → QY v h' sf' → Go Γ n0 Q T (mkF Γ.m pc' Ls (v.toList ++ rest))) : Go Γ n0 Q T (mkF Γ.m pc Ls st) := by
  subst hp hst
  obtain ⟨hx, hZ0, hown0, hby, hml, hret, hnm, hlk, hR, hsH, hzz, hel, hew⟩ := G
  subst hzz hel
  obtain ⟨aw, hew⟩ := hew
  obtain ⟨L, vm0, k0, X, e, N, hS, hk, HD⟩ := X
  have hZ : Γ.Z.Warmed39 (Γ.s.setVm vm0).vm := State.Warmed39.trans hZ0 hS.1
  have hown : (Γ.s.setVm vm0).vm.findClass own = some Γ.m.cls := by rw [show (Γ.s.setVm vm0).vm = vm0 from rfl, hS.1.alike.findClass]; exact hown0
  obtain ⟨v1, _, ⟨T1, L1, k1, n1⟩, -, X1, hS1, hg1, ⟨Lc1, q1, l1, y1, z1, c1⟩, s1⟩ := superBackS X hx hZ hown w1 w2 w3 w4 hni (backHeld (Wd := wd) M hZ wc wz (hR ▸ hf) (hR ▸ hlo) hew HD.1.1 HD.2) e I (g := mkF Γ.m pc Ls (argsL.reverse ++ .ref a :: rest)) rfl (by rw [hml]; exact hL) wc (argsL := argsL) (rest := rest) (lenOf pd hn) rfl (by show 2 * 0 + _ ≤ _; omega) (hb hby hd) (fun _ _ => ⟨rfl, e, hR ▸ hc, hR ▸ hs⟩)
  dsimp only [Pt.U, Pt.locs, Pt.cells, Pt.slots] at X1 hS1 hg1 l1 y1 z1 s1 q1 c1
  subst l1 y1 z1
  obtain ⟨⟨sf1, q1, f1⟩, N1⟩ := q1
  exact Go.of (fun t k => s1.trans k) (K T1 _ v1 sf1 ⟨_, _, _, X1, rfl, Fr.app N N1, foldS hS (by rw [e]; exact hk) hS1 hg1, Nat.le_refl _, HD.1.trans c1, fun x hx => (List.mem_append.mp hx).elim (f1 x) fun m => ⟨Nat.lt_of_lt_of_le (HD.2 x m).1 c1.2.1, c1.safe (HD.2 x m).1 (HD.2 x m).2⟩⟩ q1)
/-! ### arrays: the components by a function of their place -/
def Arf (Z : State) (h : Heap) (a : Addr) (k : ClassId) (ty : FieldType) (n : Nat) (f : Nat → Value) : Prop := ∃ c : Cell, Arr Z h a c ty ∧ c.cls = k ∧ c.slots.size = n ∧ n < 2147483648 ∧ ∀ i, i < n → c.slots[i]? = some (f i) ∧ fits ty (f i) = true
section A
variable {h' : Heap} {a b : Addr} {k : ClassId} {ty : FieldType} {n : Nat} {f g : Nat → Value} {v : Value} {sl : Nat} {ws : List Addr}
theorem Arf.lt (F : Arf Z h a k ty n f) : a < h.size := by obtain ⟨c, A, -⟩ := F; exact A.lt
theorem Arf.ext (F : Arf Z h a k ty n f) (E : Ext h h') : Arf Z h' a k ty n f := by obtain ⟨c, A, r⟩ := F; exact ⟨c, A.ext E, r⟩
theorem Arf.other (F : Arf Z h b k ty n f) (W : Wr h h' a sl v) (q : b ≠ a) : Arf Z h' b k ty n f := by obtain ⟨c, A, r⟩ := F; exact ⟨c, A.other W q, r⟩
theorem Arf.keep (F : Arf Z h a k ty n f) (K : Keep h h' ws) (q : a ∉ ws) : Arf Z h' a k ty n f := by obtain ⟨c, A, r⟩ := F; exact ⟨c, ⟨K.2.1 a c A.1 q, A.2⟩, r⟩
theorem Arf.congr (F : Arf Z h a k ty n f) (q : ∀ i, i < n → f i = g i) : Arf Z h a k ty n g := by
  obtain ⟨c, A, r1, r2, r3, H⟩ := F
  exact ⟨c, A, r1, r2, r3, fun i hi => by rw [← q i hi]; exact H i hi⟩
theorem Arf.size_lt (F : Arf Z h a k ty n f) : n < 2147483648 := by obtain ⟨c, A, r1, r2, r3, H⟩ := F; exact r3
theorem Arf.fits (F : Arf Z h a k ty n f) {i : Nat} (hi : i < n) : fits ty (f i) = true := by obtain ⟨c, A, r1, r2, r3, H⟩ := F; exact (H i hi).2
theorem idx_of {j : Int32} {i : Nat} (hj : j.toInt = i) : ¬ j < 0 ∧ j.toNatClampNeg = i := by
  rw [Int32.lt_iff_toInt_lt, show (0 : Int32).toInt = 0 from rfl, hj]
  exact ⟨by omega, by simp only [Int32.toNatClampNeg, hj]; omega⟩
theorem Arf.set (F : Arf Z h a k ty n f) {i : Nat} (W : Wr h h' a i v) (hi : i < n) (hv : Jvm.fits ty v = true) : Arf Z h' a k ty n (fun x => if x = i then v else f x) := by
  obtain ⟨c, A, r1, r2, r3, H⟩ := F
  refine ⟨_, A.same W, r1, by rw [sz_set]; exact r2, r3, fun x hx => ?_⟩
  by_cases q : x = i
  · subst q
    refine ⟨?_, by simpa using hv⟩
    simp [Cell.setSlot, r2, hx]
  · refine ⟨?_, by simpa [q] using (H x hx).2⟩
    simp only [Cell.setSlot, if_neg q]
    rw [Array.getElem?_setIfInBounds_ne (fun e => q e.symm)]; exact (H x hx).1
theorem Arf.new {z : Int32} (A : Arr Z h a (newA k ty z) ty) (hz : z.toInt = n) : Arf Z h a k ty n (fun _ => defaultValue ty) := by
  have q := idx_of hz
  refine ⟨_, A, rfl, by rw [sz_new, q.2], by have := Int32.toInt_lt z; omega, fun i hi => ⟨?_, by cases ty <;> rfl⟩⟩
  simp [newA, q.2, hi]
theorem Arf.arv (F : Arf Z h a k ty n f) {z : Int32} (hz : z.toInt = n) (dv : Value) : Arv Z h a k ty z ((List.range n).map f) dv := by
  obtain ⟨c, A, r1, r2, r3, H⟩ := F
  have q := idx_of hz
  refine ⟨c, A, r1, by rw [r2, q.2], q.1, fun i hi => ?_, fun i hi => ?_⟩
  · rw [r2] at hi; rw [(H i hi).1]; simp [List.getD_eq_getElem?_getD, hi]
  · rw [r2] at hi; have := (H i hi).2; simpa [List.getD_eq_getElem?_getD, hi] using this
theorem Arf.of_arv {z : Int32} {vs : List Value} {dv : Value} (F : Arv Z h a k ty z vs dv) (hz : z.toInt = n) (q : ∀ i, i < n → vs.getD i dv = f i) : Arf Z h a k ty n f := by
  obtain ⟨c, A, r1, r2, r3, H, G⟩ := F
  have q' := idx_of hz
  refine ⟨c, A, r1, by rw [r2, q'.2], by have := Int32.toInt_lt z; omega, fun i hi => ?_⟩
  have hi' : i < c.slots.size := by rw [r2, q'.2]; exact hi
  rw [← q i hi]; exact ⟨H i hi', G i hi'⟩
theorem Pln_arf (F : Arf Z h a k ty n f) : ∀ cell : Cell, h[a]? = some cell → cell.vm.isStatics = false := fun cell hc => by obtain ⟨c, A, -⟩ := F; cases A.1.symm.trans hc; exact A.plain
theorem Arf.sto (F : Arf Z h a k ty n f) {CC : String} {y : Addr} (O : Ovr Z k CC) (I : Ins Z h y CC true) : Sto Z h a (.ref y) := by
  obtain ⟨c, A, r1, -⟩ := F; exact Sto.ofV A r1 O I
end A

theorem k_newP {a0 : Array Value} {aty : ArrayType} {z : Int32} {n cap : Nat} (G : Ctx Γ Z EL own bytes maxl ret nm rm hs0) (X : W Γ n0 T h C S sf) (w : (Cond.arrayClass (newarray.typeOf aty)).before a0 Z = true) (hd : decode bytes pc = .ok (.newarray aty, 2)) (hp : pc + 2 = pc') (hz : z.toInt = n) (hcap : n ≤ cap) (hbig : cap * 8 ≤ 536870912) (hc : C + 1 ≤ rm.cells) (hs : S + cap ≤ rm.slots) (K : ∀ T h' a k, h.size = a → Ext h h' → Arf Z h' a k (newarray.typeOf aty) n (fun _ => defaultValue (newarray.typeOf aty)) → W Γ n0 T h' (C + 1) (S + cap) (a :: sf) → Go Γ n0 Q T (mkF Γ.m pc' Ls (.ref a :: st))) : Go Γ n0 Q T (mkF Γ.m pc Ls (.int z :: st)) := by
  subst hp
  obtain ⟨hx, hZ0, hown0, hby, hml, hret, hnm, hlk, hR, hsH, hzz, hel, hew⟩ := G
  subst hzz hel
  obtain ⟨aw, hew⟩ := hew
  obtain ⟨L, vm0, k0, X, e, N, hS, hk, HD⟩ := X
  have hZ : Γ.Z.Warmed39 (Γ.s.setVm vm0).vm := State.Warmed39.trans hZ0 hS.1
  have hown : (Γ.s.setVm vm0).vm.findClass own = some Γ.m.cls := by rw [show (Γ.s.setVm vm0).vm = vm0 from rfl, hS.1.alike.findClass]; exact hown0
  obtain ⟨T', h', k', X', e', E', A', st'⟩ := newP X hx hZ w e (g := mkF Γ.m pc Ls (.int z :: st)) rfl (hb hby hd) rfl (idx_of hz).1 (cap := cap) (by rw [(idx_of hz).2]; exact hcap) hbig (hR ▸ hc) (hR ▸ hs)
  exact Go.of st' (K T' h' _ k' rfl E' (Arf.new A' hz) ⟨L, vm0, k0, X', e', N, hS, (Nat.le_trans hk E'.1), HD.new E' A'.lt⟩)
theorem k_newPE {a0 : Array Value} {aty : ArrayType} {z : Int32} {n cap : Nat} {ad : String} (G : Ctx Γ Z EL own bytes maxl ret nm rm hs0) (X : W Γ n0 T h C S sf) (w : (Cond.arrayClass (newarray.typeOf aty)).before a0 Z = true) (had : "[" ++ (newarray.typeOf aty).toString = ad) (hd : decode bytes pc = .ok (.newarray aty, 2)) (hp : pc + 2 = pc') (hz : z.toInt = n) (hcap : n ≤ cap) (hbig : cap * 8 ≤ 536870912) (hc : C + 1 ≤ rm.cells) (hs : S + cap ≤ rm.slots) (K : ∀ T h' a k, h.size = a → Ext h h' → Arf Z h' a k (newarray.typeOf aty) n (fun _ => defaultValue (newarray.typeOf aty)) → Exa Z h' a ad → W Γ n0 T h' (C + 1) (S + cap) (a :: sf) → Go Γ n0 Q T (mkF Γ.m pc' Ls (.ref a :: st))) : Go Γ n0 Q T (mkF Γ.m pc Ls (.int z :: st)) := by
  subst hp
  obtain ⟨hx, hZ0, hown0, hby, hml, hret, hnm, hlk, hR, hsH, hzz, hel, hew⟩ := G
  subst hzz hel
  obtain ⟨aw, hew⟩ := hew
  obtain ⟨L, vm0, k0, X, e, N, hS, hk, HD⟩ := X
  have hZ : Γ.Z.Warmed39 (Γ.s.setVm vm0).vm := State.Warmed39.trans hZ0 hS.1
  have hown : (Γ.s.setVm vm0).vm.findClass own = some Γ.m.cls := by rw [show (Γ.s.setVm vm0).vm = vm0 from rfl, hS.1.alike.findClass]; exact hown0
  obtain ⟨T', h', k', X', e', E', A', Y', st'⟩ := newPE X hx hZ w e (g := mkF Γ.m pc Ls (.int z :: st)) rfl (hb hby hd) rfl (idx_of hz).1 (cap := cap) (by rw [(idx_of hz).2]; exact hcap) hbig (hR ▸ hc) (hR ▸ hs) had
  exact Go.of st' (K T' h' _ k' rfl E' (Arf.new A' hz) Y' ⟨L, vm0, k0, X', e', N, hS, (Nat.le_trans hk E'.1), HD.new E' A'.lt⟩)
theorem k_newR {a0 : Array Value} {idx : Nat} {CC : String} {z : Int32} {n cap : Nat} (G : Ctx Γ Z EL own bytes maxl ret nm rm hs0) (X : W Γ n0 T h C S sf) (w1 : (Cond.classLink own idx CC).before a0 Z = true) (w2 : (Cond.arrayOver (.object CC)).before a0 Z = true) (hd : decode bytes pc = .ok (.anewarray idx, 3)) (hp : pc + 3 = pc') (hz : z.toInt = n) (hcap : n ≤ cap) (hbig : cap * 8 ≤ 536870912) (hc : C + 1 ≤ rm.cells) (hs : S + cap ≤ rm.slots) (K : ∀ T h' a k, h.size = a → Ext h h' → Arf Z h' a k (.object CC) n (fun _ => .null) → Ovr Z k CC → W Γ n0 T h' (C + 1) (S + cap) (a :: sf) → Go Γ n0 Q T (mkF Γ.m pc' Ls (.ref a :: st))) : Go Γ n0 Q T (mkF Γ.m pc Ls (.int z :: st)) := by
  subst hp
  obtain ⟨hx, hZ0, hown0, hby, hml, hret, hnm, hlk, hR, hsH, hzz, hel, hew⟩ := G
  subst hzz hel
  obtain ⟨aw, hew⟩ := hew
  obtain ⟨L, vm0, k0, X, e, N, hS, hk, HD⟩ := X
  have hZ : Γ.Z.Warmed39 (Γ.s.setVm vm0).vm := State.Warmed39.trans hZ0 hS.1
  have hown : (Γ.s.setVm vm0).vm.findClass own = some Γ.m.cls := by rw [show (Γ.s.setVm vm0).vm = vm0 from rfl, hS.1.alike.findClass]; exact hown0
  obtain ⟨T', h', k', X', e', E', A', O', st'⟩ := newR X hx hZ hown w1 w2 e (g := mkF Γ.m pc Ls (.int z :: st)) rfl (hb hby hd) rfl (idx_of hz).1 (cap := cap) (by rw [(idx_of hz).2]; exact hcap) hbig (hR ▸ hc) (hR ▸ hs)
  exact Go.of st' (K T' h' _ k' rfl E' (Arf.new A' hz) O' ⟨L, vm0, k0, X', e', N, hS, (Nat.le_trans hk E'.1), HD.new E' A'.lt⟩)
theorem k_clone {a0 : Array Value} {idx n cap wd : Nat} {b : Addr} {k : ClassId} {ty : FieldType} {f : Nat → Value} {ad : String} (G : Ctx Γ Z EL own bytes maxl ret nm rm hs0) (X : W Γ n0 T h C S sf) (F : Arf Z h b k ty n f) (Y : Exa Z h b ad) (w1 : (Cond.methodLink own idx ⟨ad, "clone", "()Ljava/lang/Object;"⟩).before a0 Z = true) (w2 : (Cond.sameMethod ad "java/lang/Object" "clone" "()Ljava/lang/Object;").before a0 Z = true) (w3 : (Cond.native ⟨"java/lang/Object", "clone", "()Ljava/lang/Object;"⟩).before a0 Z = true)
    (w4 : (Cond.instanceMethod ⟨"java/lang/Object", "clone", "()Ljava/lang/Object;"⟩).before a0 Z = true) (w5 : (Cond.selects ad ⟨ad, "clone", "()Ljava/lang/Object;"⟩ ⟨"java/lang/Object", "clone", "()Ljava/lang/Object;"⟩).before a0 Z = true) (w6 : (Cond.castable ad "java/lang/Cloneable").before a0 Z = true) (hd : decode bytes pc = .ok (.invokevirtual idx, 3)) (hp : pc + 3 = pc') (hL : Ls.size = maxl) (hf : 1 ≤ rm.frames) (hwd : (st.map fun v => v.category).sum = wd) (hlo : wd + 14 ≤ rm.locals) (hcap : n ≤ cap) (hc : C + 1 ≤ rm.cells) (hs : S + cap ≤ rm.slots)
    (K : ∀ T h' a, h.size = a → Ext h h' → Arf Z h' a k ty n f → Exa Z h' a ad → W Γ n0 T h' (C + 1) (S + cap) (a :: sf) → Go Γ n0 Q T (mkF Γ.m pc' Ls (.ref a :: st))) : Go Γ n0 Q T (mkF Γ.m pc Ls (.ref b :: st)) := by
  subst hp
  obtain ⟨hx, hZ0, hown0, hby, hml, hret, hnm, hlk, hR, hsH, hzz, hel, hew⟩ := G
  subst hzz hel
  obtain ⟨aw, hew⟩ := hew
  obtain ⟨L, vm0, k0, X, e, N, hS, hk, HD⟩ := X
  have hZ : Γ.Z.Warmed39 (Γ.s.setVm vm0).vm := State.Warmed39.trans hZ0 hS.1
  have hown : (Γ.s.setVm vm0).vm.findClass own = some Γ.m.cls := by rw [show (Γ.s.setVm vm0).vm = vm0 from rfl, hS.1.alike.findClass]; exact hown0
  obtain ⟨cl, A, r1, r2, r3, H⟩ := F
  obtain ⟨T', h', X', e', E', A', Y', st'⟩ := cloneA X hx hZ hown w1 w2 w3 w4 w5 w6 e A Y (fitC_of A fun i hi v hv => by rw [(H i (by rw [← r2]; exact hi)).1] at hv; cases hv; exact (H i (by rw [← r2]; exact hi)).2) (g := mkF Γ.m pc Ls (.ref b :: st)) rfl (by rw [hml]; exact hL) rfl (hb hby hd) (hR ▸ hf) (W := wd) (by show 2 * 0 + _ ≤ _; omega) (hR ▸ hlo) (cap := cap) (by rw [r2]; exact hcap) (hR ▸ hc) (hR ▸ hs)
  exact Go.of st' (K T' h' _ rfl E' ⟨cloneOf cl, A', r1, r2, r3, H⟩ Y' ⟨L, vm0, k0, X', e', N, hS, (Nat.le_trans hk E'.1), HD.new E' A'.lt⟩)
theorem k_alen {a : Addr} {k : ClassId} {ty : FieldType} {n : Nat} {f : Nat → Value} {z : Int32} (G : Ctx Γ Z EL own bytes maxl ret nm rm hs0) (X : W Γ n0 T h C S sf) (F : Arf Z h a k ty n f) (hz : z.toInt = n) (hd : decode bytes pc = .ok (.arraylength, 1)) (hp : pc + 1 = pc') (K : Go Γ n0 Q T (mkF Γ.m pc' Ls (.int z :: st))) : Go Γ n0 Q T (mkF Γ.m pc Ls (.ref a :: st)) := by
  subst hp
  obtain ⟨hx, hZ0, hown0, hby, hml, hret, hnm, hlk, hR, hsH, hzz, hel, hew⟩ := G
  subst hzz hel
  obtain ⟨aw, hew⟩ := hew
  obtain ⟨L, vm0, k0, X, e, N, hS, hk, HD⟩ := X
  have hZ : Γ.Z.Warmed39 (Γ.s.setVm vm0).vm := State.Warmed39.trans hZ0 hS.1
  have hown : (Γ.s.setVm vm0).vm.findClass own = some Γ.m.cls := by rw [show (Γ.s.setVm vm0).vm = vm0 from rfl, hS.1.alike.findClass]; exact hown0
  obtain ⟨cl, A, r1, r2, r3, H⟩ := F
  have q : cl.slots.size.toInt32 = z := by rw [r2]; exact Int32.toInt_inj.mp (by rw [len_toInt r3, hz])
  rw [← q] at K
  exact Go.of (fun t k' => X.arraylength hx (by rw [e]; exact A.1) (State.isArrayOf_alike hZ.alike A.2.1) (g := mkF Γ.m pc Ls (.ref a :: st)) rfl rfl (hb hby hd) t k') K
theorem k_iaload {a : Addr} {k : ClassId} {n i : Nat} {f : Nat → Value} {j : Int32} {v : Value} (G : Ctx Γ Z EL own bytes maxl ret nm rm hs0) (X : W Γ n0 T h C S sf) (F : Arf Z h a k .int n f) (hj : j.toInt = i) (hi : i < n) (hv : f i = v) (hd : decode bytes pc = .ok (.iaload, 1)) (hp : pc + 1 = pc') (K : Go Γ n0 Q T (mkF Γ.m pc' Ls (v :: st))) : Go Γ n0 Q T (mkF Γ.m pc Ls (.int j :: .ref a :: st)) := by
  subst hp hv
  obtain ⟨hx, hZ0, hown0, hby, hml, hret, hnm, hlk, hR, hsH, hzz, hel, hew⟩ := G
  subst hzz hel
  obtain ⟨aw, hew⟩ := hew
  obtain ⟨L, vm0, k0, X, e, N, hS, hk, HD⟩ := X
  have hZ : Γ.Z.Warmed39 (Γ.s.setVm vm0).vm := State.Warmed39.trans hZ0 hS.1
  have hown : (Γ.s.setVm vm0).vm.findClass own = some Γ.m.cls := by rw [show (Γ.s.setVm vm0).vm = vm0 from rfl, hS.1.alike.findClass]; exact hown0
  obtain ⟨cl, A, r1, r2, r3, H⟩ := F
  have q := idx_of hj
  exact Go.of (fun t k' => X.iaload hx (by rw [e]; exact A.1) (State.isArrayOf_alike hZ.alike A.2.1) A.2.2 (by rw [r2, q.2]; exact fun u => u.elim q.1 (Nat.not_le.mpr hi)) (by rw [q.2]; exact (H i hi).1) (g := mkF Γ.m pc Ls (.int j :: .ref a :: st)) rfl rfl (hb hby hd) t k') K
theorem k_caload {a : Addr} {k : ClassId} {n i : Nat} {f : Nat → Value} {j : Int32} {v : Value} (G : Ctx Γ Z EL own bytes maxl ret nm rm hs0) (X : W Γ n0 T h C S sf) (F : Arf Z h a k .char n f) (hj : j.toInt = i) (hi : i < n) (hv : f i = v) (hd : decode bytes pc = .ok (.caload, 1)) (hp : pc + 1 = pc') (K : Go Γ n0 Q T (mkF Γ.m pc' Ls (v :: st))) : Go Γ n0 Q T (mkF Γ.m pc Ls (.int j :: .ref a :: st)) := by
  subst hp hv
  obtain ⟨hx, hZ0, hown0, hby, hml, hret, hnm, hlk, hR, hsH, hzz, hel, hew⟩ := G
  subst hzz hel
  obtain ⟨aw, hew⟩ := hew
  obtain ⟨L, vm0, k0, X, e, N, hS, hk, HD⟩ := X
  have hZ : Γ.Z.Warmed39 (Γ.s.setVm vm0).vm := State.Warmed39.trans hZ0 hS.1
  have hown : (Γ.s.setVm vm0).vm.findClass own = some Γ.m.cls := by rw [show (Γ.s.setVm vm0).vm = vm0 from rfl, hS.1.alike.findClass]; exact hown0
  obtain ⟨cl, A, r1, r2, r3, H⟩ := F
  have q := idx_of hj
  exact Go.of (fun t k' => X.caload hx (by rw [e]; exact A.1) (State.isArrayOf_alike hZ.alike A.2.1) A.2.2 (by rw [r2, q.2]; exact fun u => u.elim q.1 (Nat.not_le.mpr hi)) (by rw [q.2]; exact (H i hi).1) (g := mkF Γ.m pc Ls (.int j :: .ref a :: st)) rfl rfl (hb hby hd) t k') K
theorem k_saload {a : Addr} {k : ClassId} {n i : Nat} {f : Nat → Value} {j : Int32} {v : Value} (G : Ctx Γ Z EL own bytes maxl ret nm rm hs0) (X : W Γ n0 T h C S sf) (F : Arf Z h a k .short n f) (hj : j.toInt = i) (hi : i < n) (hv : f i = v) (hd : decode bytes pc = .ok (.saload, 1)) (hp : pc + 1 = pc') (K : Go Γ n0 Q T (mkF Γ.m pc' Ls (v :: st))) : Go Γ n0 Q T (mkF Γ.m pc Ls (.int j :: .ref a :: st)) := by
  subst hp hv
  obtain ⟨hx, hZ0, hown0, hby, hml, hret, hnm, hlk, hR, hsH, hzz, hel, hew⟩ := G
  subst hzz hel
  obtain ⟨aw, hew⟩ := hew
  obtain ⟨L, vm0, k0, X, e, N, hS, hk, HD⟩ := X
  have hZ : Γ.Z.Warmed39 (Γ.s.setVm vm0).vm := State.Warmed39.trans hZ0 hS.1
  have hown : (Γ.s.setVm vm0).vm.findClass own = some Γ.m.cls := by rw [show (Γ.s.setVm vm0).vm = vm0 from rfl, hS.1.alike.findClass]; exact hown0
  obtain ⟨cl, A, r1, r2, r3, H⟩ := F
  have q := idx_of hj
  exact Go.of (fun t k' => X.saload hx (by rw [e]; exact A.1) (State.isArrayOf_alike hZ.alike A.2.1) A.2.2 (by rw [r2, q.2]; exact fun u => u.elim q.1 (Nat.not_le.mpr hi)) (by rw [q.2]; exact (H i hi).1) (g := mkF Γ.m pc Ls (.int j :: .ref a :: st)) rfl rfl (hb hby hd) t k') K
theorem k_laload {a : Addr} {k : ClassId} {n i : Nat} {f : Nat → Value} {j : Int32} {v : Value} (G : Ctx Γ Z EL own bytes maxl ret nm rm hs0) (X : W Γ n0 T h C S sf) (F : Arf Z h a k .long n f) (hj : j.toInt = i) (hi : i < n) (hv : f i = v) (hd : decode bytes pc = .ok (.laload, 1)) (hp : pc + 1 = pc') (K : Go Γ n0 Q T (mkF Γ.m pc' Ls (v :: st))) : Go Γ n0 Q T (mkF Γ.m pc Ls (.int j :: .ref a :: st)) := by
  subst hp hv
  obtain ⟨hx, hZ0, hown0, hby, hml, hret, hnm, hlk, hR, hsH, hzz, hel, hew⟩ := G
  subst hzz hel
  obtain ⟨aw, hew⟩ := hew
  obtain ⟨L, vm0, k0, X, e, N, hS, hk, HD⟩ := X
  have hZ : Γ.Z.Warmed39 (Γ.s.setVm vm0).vm := State.Warmed39.trans hZ0 hS.1
  have hown : (Γ.s.setVm vm0).vm.findClass own = some Γ.m.cls := by rw [show (Γ.s.setVm vm0).vm = vm0 from rfl, hS.1.alike.findClass]; exact hown0
  obtain ⟨cl, A, r1, r2, r3, H⟩ := F
  have q := idx_of hj
  exact Go.of (fun t k' => X.laload hx (by rw [e]; exact A.1) (State.isArrayOf_alike hZ.alike A.2.1) A.2.2 (by rw [r2, q.2]; exact fun u => u.elim q.1 (Nat.not_le.mpr hi)) (by rw [q.2]; exact (H i hi).1) (g := mkF Γ.m pc Ls (.int j :: .ref a :: st)) rfl rfl (hb hby hd) t k') K
theorem k_baload {a : Addr} {k : ClassId} {n i : Nat} {f : Nat → Value} {j : Int32} {v : Value} (G : Ctx Γ Z EL own bytes maxl ret nm rm hs0) (X : W Γ n0 T h C S sf) (F : Arf Z h a k .byte n f) (hj : j.toInt = i) (hi : i < n) (hv : f i = v) (hd : decode bytes pc = .ok (.baload, 1)) (hp : pc + 1 = pc') (K : Go Γ n0 Q T (mkF Γ.m pc' Ls (v :: st))) : Go Γ n0 Q T (mkF Γ.m pc Ls (.int j :: .ref a :: st)) := by
  subst hp hv
  obtain ⟨hx, hZ0, hown0, hby, hml, hret, hnm, hlk, hR, hsH, hzz, hel, hew⟩ := G
  subst hzz hel
  obtain ⟨aw, hew⟩ := hew
  obtain ⟨L, vm0, k0, X, e, N, hS, hk, HD⟩ := X
  have hZ : Γ.Z.Warmed39 (Γ.s.setVm vm0).vm := State.Warmed39.trans hZ0 hS.1
  have hown : (Γ.s.setVm vm0).vm.findClass own = some Γ.m.cls := by rw [show (Γ.s.setVm vm0).vm = vm0 from rfl, hS.1.alike.findClass]; exact hown0
  obtain ⟨cl, A, r1, r2, r3, H⟩ := F
  have q := idx_of hj
  exact Go.of (fun t k' => X.baloadBytes hx (by rw [e]; exact A.1) (State.isArrayOf_alike hZ.alike A.2.1) A.2.2 (by rw [r2, q.2]; exact fun u => u.elim q.1 (Nat.not_le.mpr hi)) (by rw [q.2]; exact (H i hi).1) (g := mkF Γ.m pc Ls (.int j :: .ref a :: st)) rfl rfl (hb hby hd) t k') K
theorem k_aaload {a : Addr} {k : ClassId} {ty : FieldType} {n i : Nat} {f : Nat → Value} {j : Int32} {v : Value} (G : Ctx Γ Z EL own bytes maxl ret nm rm hs0) (X : W Γ n0 T h C S sf) (F : Arf Z h a k ty n f) (hty : ty.isReference = true) (hj : j.toInt = i) (hi : i < n) (hv : f i = v) (hd : decode bytes pc = .ok (.aaload, 1)) (hp : pc + 1 = pc') (K : Go Γ n0 Q T (mkF Γ.m pc' Ls (v :: st))) : Go Γ n0 Q T (mkF Γ.m pc Ls (.int j :: .ref a :: st)) := by
  subst hp hv
  obtain ⟨hx, hZ0, hown0, hby, hml, hret, hnm, hlk, hR, hsH, hzz, hel, hew⟩ := G
  subst hzz hel
  obtain ⟨aw, hew⟩ := hew
  obtain ⟨L, vm0, k0, X, e, N, hS, hk, HD⟩ := X
  have hZ : Γ.Z.Warmed39 (Γ.s.setVm vm0).vm := State.Warmed39.trans hZ0 hS.1
  have hown : (Γ.s.setVm vm0).vm.findClass own = some Γ.m.cls := by rw [show (Γ.s.setVm vm0).vm = vm0 from rfl, hS.1.alike.findClass]; exact hown0
  obtain ⟨cl, A, r1, r2, r3, H⟩ := F
  have q := idx_of hj
  exact Go.of (fun t k' => X.aaload hx (by rw [e]; exact A.1) (State.isArrayOf_alike hZ.alike A.2.1) hty A.2.2 (by rw [r2, q.2]; exact fun u => u.elim q.1 (Nat.not_le.mpr hi)) (by rw [q.2]; exact (H i hi).1) (g := mkF Γ.m pc Ls (.int j :: .ref a :: st)) rfl rfl (hb hby hd) t k') K
theorem k_iastore {a : Addr} {k : ClassId} {n i : Nat} {f : Nat → Value} {j x z : Int32} (G : Ctx Γ Z EL own bytes maxl ret nm rm hs0) (X : W Γ n0 T h C S sf) (F : Arf Z h a k .int n f) (hj : j.toInt = i) (hi : i < n) (hz : x = z) (ga : n0 ≤ a) (ms : a ∈ sf) (hd : decode bytes pc = .ok (.iastore, 1)) (hp : pc + 1 = pc') (K : ∀ T h', Wr h h' a i (.int z) → Arf Z h' a k .int n (fun x => if x = i then (.int z) else f x) → W Γ n0 T h' C S sf → Go Γ n0 Q T (mkF Γ.m pc' Ls st)) : Go Γ n0 Q T (mkF Γ.m pc Ls (.int x :: .int j :: .ref a :: st)) := by
  subst hp hz
  obtain ⟨hx, hZ0, hown0, hby, hml, hret, hnm, hlk, hR, hsH, hzz, hel, hew⟩ := G
  subst hzz hel
  obtain ⟨aw, hew⟩ := hew
  obtain ⟨L, vm0, k0, X, e, N, hS, hk, HD⟩ := X
  have hZ : Γ.Z.Warmed39 (Γ.s.setVm vm0).vm := State.Warmed39.trans hZ0 hS.1
  have hown : (Γ.s.setVm vm0).vm.findClass own = some Γ.m.cls := by rw [show (Γ.s.setVm vm0).vm = vm0 from rfl, hS.1.alike.findClass]; exact hown0
  have F0 := F
  obtain ⟨cl, A, r1, r2, r3, H⟩ := F
  have q := idx_of hj
  obtain ⟨T', h', X', e', W', st'⟩ := stI X hx hZ e A (j := j) (x := x) (by rw [r2, q.2]; exact fun u => u.elim q.1 (Nat.not_le.mpr hi)) (g := mkF Γ.m pc Ls (.int x :: .int j :: .ref a :: st)) rfl rfl (hb hby hd)
  rw [q.2] at W' X'
  exact Go.of st' (K T' h' W' (F0.set W' hi (rfl)) ⟨_, vm0, k0, X', e', Fr.snoc X' N ga, hS, (by rw [W'.size]; exact hk), HD.wr W' ms⟩)
theorem k_castore {a : Addr} {k : ClassId} {n i : Nat} {f : Nat → Value} {j x z : Int32} (G : Ctx Γ Z EL own bytes maxl ret nm rm hs0) (X : W Γ n0 T h C S sf) (F : Arf Z h a k .char n f) (hj : j.toInt = i) (hi : i < n) (hz : nar .char x = z) (ga : n0 ≤ a) (ms : a ∈ sf) (hd : decode bytes pc = .ok (.castore, 1)) (hp : pc + 1 = pc') (K : ∀ T h', Wr h h' a i (.int z) → Arf Z h' a k .char n (fun x => if x = i then (.int z) else f x) → W Γ n0 T h' C S sf → Go Γ n0 Q T (mkF Γ.m pc' Ls st)) : Go Γ n0 Q T (mkF Γ.m pc Ls (.int x :: .int j :: .ref a :: st)) := by
  subst hp hz
  obtain ⟨hx, hZ0, hown0, hby, hml, hret, hnm, hlk, hR, hsH, hzz, hel, hew⟩ := G
  subst hzz hel
  obtain ⟨aw, hew⟩ := hew
  obtain ⟨L, vm0, k0, X, e, N, hS, hk, HD⟩ := X
  have hZ : Γ.Z.Warmed39 (Γ.s.setVm vm0).vm := State.Warmed39.trans hZ0 hS.1
  have hown : (Γ.s.setVm vm0).vm.findClass own = some Γ.m.cls := by rw [show (Γ.s.setVm vm0).vm = vm0 from rfl, hS.1.alike.findClass]; exact hown0
  have F0 := F
  obtain ⟨cl, A, r1, r2, r3, H⟩ := F
  have q := idx_of hj
  obtain ⟨T', h', X', e', W', st'⟩ := stC X hx hZ e A (j := j) (x := x) (by rw [r2, q.2]; exact fun u => u.elim q.1 (Nat.not_le.mpr hi)) (g := mkF Γ.m pc Ls (.int x :: .int j :: .ref a :: st)) rfl rfl (hb hby hd)
  rw [q.2] at W' X'
  exact Go.of st' (K T' h' W' (F0.set W' hi (fits_nar_char _)) ⟨_, vm0, k0, X', e', Fr.snoc X' N ga, hS, (by rw [W'.size]; exact hk), HD.wr W' ms⟩)
theorem k_sastore {a : Addr} {k : ClassId} {n i : Nat} {f : Nat → Value} {j x z : Int32} (G : Ctx Γ Z EL own bytes maxl ret nm rm hs0) (X : W Γ n0 T h C S sf) (F : Arf Z h a k .short n f) (hj : j.toInt = i) (hi : i < n) (hz : nar .short x = z) (ga : n0 ≤ a) (ms : a ∈ sf) (hd : decode bytes pc = .ok (.sastore, 1)) (hp : pc + 1 = pc') (K : ∀ T h', Wr h h' a i (.int z) → Arf Z h' a k .short n (fun x => if x = i then (.int z) else f x) → W Γ n0 T h' C S sf → Go Γ n0 Q T (mkF Γ.m pc' Ls st)) : Go Γ n0 Q T (mkF Γ.m pc Ls (.int x :: .int j :: .ref a :: st)) := by
  subst hp hz
  obtain ⟨hx, hZ0, hown0, hby, hml, hret, hnm, hlk, hR, hsH, hzz, hel, hew⟩ := G
  subst hzz hel
  obtain ⟨aw, hew⟩ := hew
  obtain ⟨L, vm0, k0, X, e, N, hS, hk, HD⟩ := X
  have hZ : Γ.Z.Warmed39 (Γ.s.setVm vm0).vm := State.Warmed39.trans hZ0 hS.1
  have hown : (Γ.s.setVm vm0).vm.findClass own = some Γ.m.cls := by rw [show (Γ.s.setVm vm0).vm = vm0 from rfl, hS.1.alike.findClass]; exact hown0
  have F0 := F
  obtain ⟨cl, A, r1, r2, r3, H⟩ := F
  have q := idx_of hj
  obtain ⟨T', h', X', e', W', st'⟩ := stS X hx hZ e A (j := j) (x := x) (by rw [r2, q.2]; exact fun u => u.elim q.1 (Nat.not_le.mpr hi)) (g := mkF Γ.m pc Ls (.int x :: .int j :: .ref a :: st)) rfl rfl (hb hby hd)
  rw [q.2] at W' X'
  exact Go.of st' (K T' h' W' (F0.set W' hi (fits_nar_short _)) ⟨_, vm0, k0, X', e', Fr.snoc X' N ga, hS, (by rw [W'.size]; exact hk), HD.wr W' ms⟩)
theorem k_bastore {a : Addr} {k : ClassId} {n i : Nat} {f : Nat → Value} {j x z : Int32} (G : Ctx Γ Z EL own bytes maxl ret nm rm hs0) (X : W Γ n0 T h C S sf) (F : Arf Z h a k .byte n f) (hj : j.toInt = i) (hi : i < n) (hz : nar .byte x = z) (ga : n0 ≤ a) (ms : a ∈ sf) (hd : decode bytes pc = .ok (.bastore, 1)) (hp : pc + 1 = pc') (K : ∀ T h', Wr h h' a i (.int z) → Arf Z h' a k .byte n (fun x => if x = i then (.int z) else f x) → W Γ n0 T h' C S sf → Go Γ n0 Q T (mkF Γ.m pc' Ls st)) : Go Γ n0 Q T (mkF Γ.m pc Ls (.int x :: .int j :: .ref a :: st)) := by
  subst hp hz
  obtain ⟨hx, hZ0, hown0, hby, hml, hret, hnm, hlk, hR, hsH, hzz, hel, hew⟩ := G
  subst hzz hel
  obtain ⟨aw, hew⟩ := hew
  obtain ⟨L, vm0, k0, X, e, N, hS, hk, HD⟩ := X
  have hZ : Γ.Z.Warmed39 (Γ.s.setVm vm0).vm := State.Warmed39.trans hZ0 hS.1
  have hown : (Γ.s.setVm vm0).vm.findClass own = some Γ.m.cls := by rw [show (Γ.s.setVm vm0).vm = vm0 from rfl, hS.1.alike.findClass]; exact hown0
  have F0 := F
  obtain ⟨cl, A, r1, r2, r3, H⟩ := F
  have q := idx_of hj
  obtain ⟨T', h', X', e', W', st'⟩ := stB X hx hZ e A (j := j) (x := x) (by rw [r2, q.2]; exact fun u => u.elim q.1 (Nat.not_le.mpr hi)) (g := mkF Γ.m pc Ls (.int x :: .int j :: .ref a :: st)) rfl rfl (hb hby hd)
  rw [q.2] at W' X'
  exact Go.of st' (K T' h' W' (F0.set W' hi (fits_nar_byte _)) ⟨_, vm0, k0, X', e', Fr.snoc X' N ga, hS, (by rw [W'.size]; exact hk), HD.wr W' ms⟩)
theorem k_lastore {a : Addr} {k : ClassId} {n i : Nat} {f : Nat → Value} {j : Int32} {y : Int64} (G : Ctx Γ Z EL own bytes maxl ret nm rm hs0) (X : W Γ n0 T h C S sf) (F : Arf Z h a k .long n f) (hj : j.toInt = i) (hi : i < n) (ga : n0 ≤ a) (ms : a ∈ sf) (hd : decode bytes pc = .ok (.lastore, 1)) (hp : pc + 1 = pc') (K : ∀ T h', Wr h h' a i (.long y) → Arf Z h' a k .long n (fun x => if x = i then (.long y) else f x) → W Γ n0 T h' C S sf → Go Γ n0 Q T (mkF Γ.m pc' Ls st)) : Go Γ n0 Q T (mkF Γ.m pc Ls (.long y :: .int j :: .ref a :: st)) := by
  subst hp
  obtain ⟨hx, hZ0, hown0, hby, hml, hret, hnm, hlk, hR, hsH, hzz, hel, hew⟩ := G
  subst hzz hel
  obtain ⟨aw, hew⟩ := hew
  obtain ⟨L, vm0, k0, X, e, N, hS, hk, HD⟩ := X
  have hZ : Γ.Z.Warmed39 (Γ.s.setVm vm0).vm := State.Warmed39.trans hZ0 hS.1
  have hown : (Γ.s.setVm vm0).vm.findClass own = some Γ.m.cls := by rw [show (Γ.s.setVm vm0).vm = vm0 from rfl, hS.1.alike.findClass]; exact hown0
  have F0 := F
  obtain ⟨cl, A, r1, r2, r3, H⟩ := F
  have q := idx_of hj
  obtain ⟨T', h', X', e', W', st'⟩ := stJ X hx hZ e A (j := j) (x := y) (by rw [r2, q.2]; exact fun u => u.elim q.1 (Nat.not_le.mpr hi)) (g := mkF Γ.m pc Ls (.long y :: .int j :: .ref a :: st)) rfl rfl (hb hby hd)
  rw [q.2] at W' X'
  exact Go.of st' (K T' h' W' (F0.set W' hi rfl) ⟨_, vm0, k0, X', e', Fr.snoc X' N ga, hS, (by rw [W'.size]; exact hk), HD.wr W' ms⟩)
theorem k_aastore {a : Addr} {k : ClassId} {ty : FieldType} {n i : Nat} {f : Nat → Value} {j : Int32} {v : Value} (G : Ctx Γ Z EL own bytes maxl ret nm rm hs0) (X : W Γ n0 T h C S sf) (F : Arf Z h a k ty n f) (hty : ty.isReference = true) (hj : j.toInt = i) (hi : i < n) (O : Sto Z h a v) (hv : fits ty v = true) (ga : n0 ≤ a) (ms : a ∈ sf) (hd : decode bytes pc = .ok (.aastore, 1)) (hp : pc + 1 = pc') (K : ∀ T h', Wr h h' a i v → Arf Z h' a k ty n (fun x => if x = i then v else f x) → W Γ n0 T h' C S sf → Go Γ n0 Q T (mkF Γ.m pc' Ls st)) : Go Γ n0 Q T (mkF Γ.m pc Ls (v :: .int j :: .ref a :: st)) := by
  subst hp
  obtain ⟨hx, hZ0, hown0, hby, hml, hret, hnm, hlk, hR, hsH, hzz, hel, hew⟩ := G
  subst hzz hel
  obtain ⟨aw, hew⟩ := hew
  obtain ⟨L, vm0, k0, X, e, N, hS, hk, HD⟩ := X
  have hZ : Γ.Z.Warmed39 (Γ.s.setVm vm0).vm := State.Warmed39.trans hZ0 hS.1
  have hown : (Γ.s.setVm vm0).vm.findClass own = some Γ.m.cls := by rw [show (Γ.s.setVm vm0).vm = vm0 from rfl, hS.1.alike.findClass]; exact hown0
  have F0 := F
  obtain ⟨cl, A, r1, r2, r3, H⟩ := F
  have q := idx_of hj
  obtain ⟨T', h', X', e', W', st'⟩ := stR X hx hZ e A (j := j) (v := v) (by rw [r2, q.2]; exact fun u => u.elim q.1 (Nat.not_le.mpr hi)) hty O (g := mkF Γ.m pc Ls (v :: .int j :: .ref a :: st)) rfl rfl (hb hby hd)
  rw [q.2] at W' X'
  exact Go.of st' (K T' h' W' (F0.set W' hi hv) ⟨_, vm0, k0, X', e', Fr.snoc X' N ga, hS, (by rw [W'.size]; exact hk), HD.wr W' ms⟩)
theorem k_copy {a0 : Array Value} {idx : Nat} {a b : Addr} {k k' : ClassId} {ty : FieldType} {n n' sp dp nn wd : Nat} {f g : Nat → Value} {js jd jn : Int32} (G : Ctx Γ Z EL own bytes maxl ret nm rm hs0) (X : W Γ n0 T h C S sf) (F : Arf Z h a k ty n f) (F' : Arf Z h b k' ty n' g) (hty : refKind ty = false)
    (w1 : (Cond.methodLink own idx Jvm.Stand.acN).before a0 Z = true) (w2 : (Cond.native Jvm.Stand.acN).before a0 Z = true) (w3 : (Cond.static Jvm.Stand.acN).before a0 Z = true) (w4 : (Cond.initialized "java/lang/System").before a0 Z = true)
    (hjs : js.toInt = sp) (hjd : jd.toInt = dp) (hjn : jn.toInt = nn) (h1 : sp + nn ≤ n) (h2 : dp + nn ≤ n') (gb : n0 ≤ b) (ms : b ∈ sf) (hd : decode bytes pc = .ok (.invokestatic idx, 3)) (hp : pc + 3 = pc') (hL : Ls.size = maxl) (hf : 1 ≤ rm.frames) (hwd : (st.map fun v => v.category).sum = wd) (hlo : wd + (nativeFrameWords "java/lang/System" "arraycopy" 5 + 11) ≤ rm.locals)
    (K : ∀ T h', Keep h h' [b] → Arf Z h' b k' ty n' (fun i => if dp ≤ i ∧ i < dp + nn then f (sp + (i - dp)) else g i) → W Γ n0 T h' C S sf → Go Γ n0 Q T (mkF Γ.m pc' Ls st)) : Go Γ n0 Q T (mkF Γ.m pc Ls (.int jn :: .int jd :: .ref b :: .int js :: .ref a :: st)) := by
  subst hp
  obtain ⟨hx, hZ0, hown0, hby, hml, hret, hnm, hlk, hR, hsH, hzz, hel, hew⟩ := G
  subst hzz hel
  obtain ⟨aw, hew⟩ := hew
  obtain ⟨L, vm0, k0, X, e, N, hS, hk, HD⟩ := X
  have hZ : Γ.Z.Warmed39 (Γ.s.setVm vm0).vm := State.Warmed39.trans hZ0 hS.1
  have hown : (Γ.s.setVm vm0).vm.findClass own = some Γ.m.cls := by rw [show (Γ.s.setVm vm0).vm = vm0 from rfl, hS.1.alike.findClass]; exact hown0
  obtain ⟨z, hz⟩ : ∃ z : Int32, z.toInt = n := ⟨n.toInt32, len_toInt F.size_lt⟩
  obtain ⟨z', hz'⟩ : ∃ z : Int32, z.toInt = n' := ⟨n'.toInt32, len_toInt F'.size_lt⟩
  have A := F.arv hz .null
  have B := F'.arv hz' .null
  obtain ⟨qs1, qs2⟩ := idx_of hjs
  obtain ⟨qd1, qd2⟩ := idx_of hjd
  obtain ⟨qn1, qn2⟩ := idx_of hjn
  obtain ⟨T', h', L', X', e', N', K', A', st'⟩ := cpA X hx hZ hown w1 w2 w3 w4 e A B (Or.inl ⟨rfl, hty⟩) qs1 qd1 qn1 (by rw [qs2, qn2, (idx_of hz).2]; exact h1) (by rw [qd2, qn2, (idx_of hz').2]; exact h2) rfl (by rw [qd2, qn2]; simpa using h2) N gb (g := mkF Γ.m pc Ls (.int jn :: .int jd :: .ref b :: .int js :: .ref a :: st)) rfl (by rw [hml]; exact hL) rfl (hb hby hd) (hR ▸ hf) (W := wd) (by show 2 * 0 + _ ≤ _; omega) (hR ▸ hlo)
  refine Go.of st' (K T' h' K' (Arf.of_arv A' hz' fun i hi => ?_) ⟨L', vm0, k0, X', e', N', hS, Nat.le_trans hk K'.1, HD.keep K' ms⟩)
  rw [qs2, qd2, qn2]
  simp only [List.getD_eq_getElem?_getD]
  have lt : (((List.range n').map g).take dp).length = dp := by simp; omega
  by_cases c1 : i < dp
  · rw [List.append_assoc, List.getElem?_append_left (by rw [lt]; exact c1), List.getElem?_take_of_lt c1, if_neg (by omega)]
    simp [hi]
  · by_cases c2 : i < dp + nn
    · rw [List.getElem?_append_left (by rw [List.length_append, lt]; simp; omega), List.getElem?_append_right (by omega), lt, if_pos (by omega)]
      have q1 : i - dp < nn := by omega
      have q2 : sp + (i - dp) < n := by omega
      simp [q1, q2]
    · rw [List.getElem?_append_right (by rw [List.length_append, lt]; simp; omega), if_neg (by omega), List.getElem?_drop]
      have q3 : dp + nn + (i - (((List.range n').map g).take dp ++ (List.range nn).map fun i => (((List.range n).map f)[sp + i]?).getD .null).length) = i := by rw [List.length_append, lt]; simp; omega
      rw [q3]; simp [hi]
theorem k_instNull {idx : Nat} (G : Ctx Γ Z EL own bytes maxl ret nm rm hs0) (X : W Γ n0 T h C S sf) (hd : decode bytes pc = .ok (.instanceof idx, 3)) (hp : pc + 3 = pc') (K : Go Γ n0 Q T (mkF Γ.m pc' Ls (.int 0 :: st))) : Go Γ n0 Q T (mkF Γ.m pc Ls (.null :: st)) := by
  subst hp
  obtain ⟨hx, hZ0, hown0, hby, hml, hret, hnm, hlk, hR, hsH, hzz, hel, hew⟩ := G
  subst hzz hel
  obtain ⟨aw, hew⟩ := hew
  obtain ⟨L, vm0, k0, X, e, N, hS, hk, HD⟩ := X
  have hZ : Γ.Z.Warmed39 (Γ.s.setVm vm0).vm := State.Warmed39.trans hZ0 hS.1
  have hown : (Γ.s.setVm vm0).vm.findClass own = some Γ.m.cls := by rw [show (Γ.s.setVm vm0).vm = vm0 from rfl, hS.1.alike.findClass]; exact hown0
  exact Go.of (fun t k => X.instanceofNull hx (g := mkF Γ.m pc Ls (.null :: st)) rfl rfl (hb hby hd) t k) K
theorem k_castNull {idx : Nat} (G : Ctx Γ Z EL own bytes maxl ret nm rm hs0) (X : W Γ n0 T h C S sf) (hd : decode bytes pc = .ok (.checkcast idx, 3)) (hp : pc + 3 = pc') (K : Go Γ n0 Q T (mkF Γ.m pc' Ls (.null :: st))) : Go Γ n0 Q T (mkF Γ.m pc Ls (.null :: st)) := by
  subst hp
  obtain ⟨hx, hZ0, hown0, hby, hml, hret, hnm, hlk, hR, hsH, hzz, hel, hew⟩ := G
  subst hzz hel
  obtain ⟨aw, hew⟩ := hew
  obtain ⟨L, vm0, k0, X, e, N, hS, hk, HD⟩ := X
  have hZ : Γ.Z.Warmed39 (Γ.s.setVm vm0).vm := State.Warmed39.trans hZ0 hS.1
  have hown : (Γ.s.setVm vm0).vm.findClass own = some Γ.m.cls := by rw [show (Γ.s.setVm vm0).vm = vm0 from rfl, hS.1.alike.findClass]; exact hown0
  exact Go.of (fun t k => X.checkcastNull hx (g := mkF Γ.m pc Ls (.null :: st)) rfl rfl (hb hby hd) t k) K
theorem k_instN {a0 : Array Value} {idx : Nat} {KK CC : String} {a : Addr} (G : Ctx Γ Z EL own bytes maxl ret nm rm hs0) (X : W Γ n0 T h C S sf) (w : (Cond.classLink own idx KK).before a0 Z = true) (F : Ins Z hs0 a KK false) (E : Exa Z hs0 a CC) (hd : decode bytes pc = .ok (.instanceof idx, 3)) (hp : pc + 3 = pc') (K : ∀ T, W Γ n0 T h C S sf → Go Γ n0 Q T (mkF Γ.m pc' Ls (.int 0 :: st))) : Go Γ n0 Q T (mkF Γ.m pc Ls (.ref a :: st)) := by
  subst hp
  obtain ⟨hx, hZ0, hown0, hby, hml, hret, hnm, hlk, hR, hsH, hzz, hel, hew⟩ := G
  subst hzz hel
  obtain ⟨aw, hew⟩ := hew
  obtain ⟨L, vm0, k0, X, e, N, hS, hk, HD⟩ := X
  have hZ : Γ.Z.Warmed39 (Γ.s.setVm vm0).vm := State.Warmed39.trans hZ0 hS.1
  have hown : (Γ.s.setVm vm0).vm.findClass own = some Γ.m.cls := by rw [show (Γ.s.setVm vm0).vm = vm0 from rfl, hS.1.alike.findClass]; exact hown0
  obtain ⟨T', X', e', st'⟩ := instN X hx hZ hown w e (show Ins Γ.Z Γ.s.heap a KK false by rw [hsH]; exact F) (show Exa Γ.Z Γ.s.heap a CC by rw [hsH]; exact E) (g := mkF Γ.m pc Ls (.ref a :: st)) rfl rfl (hb hby hd)
  exact Go.of st' (K T' ⟨L, vm0, k0, X', e', N, hS, hk, HD⟩)
theorem k_instNo {a0 : Array Value} {idx : Nat} {KK CC : String} {a : Addr} (G : Ctx Γ Z EL own bytes maxl ret nm rm hs0) (X : W Γ n0 T h C S sf) (w : (Cond.classLink own idx KK).before a0 Z = true) (E : Exa Z h a CC) (F : ∃ c t, Z.vm.findClass CC = some c ∧ Z.vm.findClass KK = some t ∧ Z.vm.assignable c t = false) (hd : decode bytes pc = .ok (.instanceof idx, 3)) (hp : pc + 3 = pc') (K : ∀ T, W Γ n0 T h C S sf → Go Γ n0 Q T (mkF Γ.m pc' Ls (.int 0 :: st))) : Go Γ n0 Q T (mkF Γ.m pc Ls (.ref a :: st)) := by
  subst hp
  obtain ⟨hx, hZ0, hown0, hby, hml, hret, hnm, hlk, hR, hsH, hzz, hel, hew⟩ := G
  subst hzz hel
  obtain ⟨aw, hew⟩ := hew
  obtain ⟨L, vm0, k0, X, e, N, hS, hk, HD⟩ := X
  have hZ : Γ.Z.Warmed39 (Γ.s.setVm vm0).vm := State.Warmed39.trans hZ0 hS.1
  have hown : (Γ.s.setVm vm0).vm.findClass own = some Γ.m.cls := by rw [show (Γ.s.setVm vm0).vm = vm0 from rfl, hS.1.alike.findClass]; exact hown0
  obtain ⟨T', X', e', st'⟩ := instNo X hx hZ hown w e E F (g := mkF Γ.m pc Ls (.ref a :: st)) rfl rfl (hb hby hd)
  exact Go.of st' (K T' ⟨L, vm0, k0, X', e', N, hS, hk, HD⟩)
theorem selP {a0 : Array Value} {y : MethodName} {n : Nat} (wi : (Cond.instantiable y.cls n).before a0 Z = true) (wp : (Cond.privateMethod y).before a0 Z = true) (w2 : (Cond.instanceMethod y).before a0 Z = true) (hy : y.cls ≠ "java/lang/invoke/MethodHandle" ∧ y.cls ≠ "java/lang/invoke/VarHandle") : (Cond.selects y.cls y y).before a0 Z = true := by
  obtain ⟨t, kt, g0, g1, g2, gr⟩ := Cond.instantiable_spec wi
  have gi : kt.isInterface = false := by have := gr.1; simp at this; exact this.1
  exact Jvm.Stand.selects_self_of_private g0 g1 gi (Cond.privateMethod_at wp) w2 hy
theorem selQ {a0 : Array Value} {y : MethodName} {CC : String} (ws : (Cond.selects CC y y).before a0 Z = true) (wp : (Cond.privateMethod y).before a0 Z = true) (w2 : (Cond.instanceMethod y).before a0 Z = true) (hy : y.cls ≠ "java/lang/invoke/MethodHandle" ∧ y.cls ≠ "java/lang/invoke/VarHandle") : (Cond.selects y.cls y y).before a0 Z = true := by
  obtain ⟨r0, meth, h0, -, -, -⟩ := Cond.instanceMethod_spec w2
  obtain ⟨kr, k1, k2⟩ := notFace_of_selects ws r0 h0
  exact Jvm.Stand.selects_self_of_private (findClass_of_methodNamed h0) k1 k2 (Cond.privateMethod_at wp) w2 hy
theorem smD {a0 : Array Value} {y : MethodName} (w2 : (Cond.instanceMethod y).before a0 Z = true) (nf : NotFace Z y) (hy : y.cls ≠ "java/lang/invoke/MethodHandle" ∧ y.cls ≠ "java/lang/invoke/VarHandle") : (Cond.sameMethod y.cls y.cls y.name y.desc).before a0 Z = true := by
  obtain ⟨r0, meth, h0, -, -, -⟩ := Cond.instanceMethod_spec w2
  obtain ⟨kr, k1, k2⟩ := nf r0 h0
  have h1 := findClass_of_methodNamed h0
  have h2 := State.methodFound?_of_named h0 hy
  simp [Cond.before, Cond.holds, Cond.value, h1, h2, h0, k1, k2]
theorem nf_root {a0 : Array Value} {y : MethodName} (w : (Cond.noSuperclass y.cls).before a0 Z = true) : ∀ s : State, Z.Warmed39 s.vm → NotFace s y := fun s hZ r0 h0 => by
  obtain ⟨c, k, h1, h2, -, -, h5⟩ := Cond.noSuperclass_spec (mvT (args := #[]) hZ w)
  cases (findClass_of_methodNamed h0).symm.trans h1
  exact ⟨k, h2, h5⟩
theorem nf_sib {a0 : Array Value} {CC : String} {y y' : MethodName} (w3 : (Cond.selects CC y' y').before a0 Z = true) (w4 : (Cond.instanceMethod y').before a0 Z = true) (e : y'.cls = y.cls) : ∀ s : State, Z.Warmed39 s.vm → NotFace s y := fun s hZ r0 h0 => by
  obtain ⟨r1, meth, h1, -, -, -⟩ := Cond.instanceMethod_spec (mvT (args := #[]) hZ w4)
  obtain ⟨kr, k1, k2⟩ := notFace_of_selects (args := #[]) (mvT hZ w3) r1 h1
  have := Option.some.inj ((findClass_of_methodNamed h0).symm.trans (e ▸ findClass_of_methodNamed h1))
  exact ⟨kr, by rw [this]; exact k1, k2⟩
theorem noInst {a0 : Array Value} {CC KK : String} {n : Nat} (w : (Cond.superclass CC "java/lang/Object").before a0 Z = true) (wo : (Cond.noSuperclass "java/lang/Object").before a0 Z = true) (wi : (Cond.instantiable KK n).before a0 Z = true) (h1 : CC ≠ KK) (h2 : "java/lang/Object" ≠ KK) : ∃ c t, Z.vm.findClass CC = some c ∧ Z.vm.findClass KK = some t ∧ Z.vm.assignable c t = false := by
  obtain ⟨t, kt, g0, g1, g2, gr⟩ := Cond.instantiable_spec wi
  have gi : kt.isInterface = false := by have := gr.1; simp at this; exact this.1
  obtain ⟨o, ko, o1, o2, o3, -⟩ := Cond.noSuperclass_spec wo
  obtain ⟨c, h0⟩ := found_sup w
  obtain ⟨p, k, kp, q1, q2, q3, q4, q5, -, q7⟩ := Cond.superclass_spec h0 w
  cases o1.symm.trans q1
  have ne1 := ids_ne h0 g0 h1
  have ne2 := ids_ne o1 g0 h2
  have n3 : ∀ fuel, Z.vm.isSubclassAux fuel c t = false := fun fuel => by
    cases fuel with
    | zero => rfl
    | succ f =>
      have n2 : Z.vm.isSubclassAux f o t = false := by
        cases f with
        | zero => rfl
        | succ f => simp [Vm.isSubclassAux, ne2, o2, o3]
      simp [Vm.isSubclassAux, ne1, q2, q4, n2]
  refine ⟨c, t, h0, g0, ?_⟩
  show Z.vm.assignableAux (255 + 1) c t = false
  simp [Vm.assignableAux, ne1, q2, g1, q5, g2, gi, Vm.isSubclass, n3]
theorem Hd.later {Γ : Cx} {vm vm1 : Vm} {h h' : Heap} {sf : List Addr} (H : Hd Γ vm h sf) (c : CHr Γ.Z Γ.EL vm h vm1 h') : Hd Γ vm1 h' sf := ⟨H.1.trans c, fun x m => ⟨Nat.lt_of_lt_of_le (H.2 x m).1 c.2.1, c.safe (H.2 x m).1 (H.2 x m).2⟩⟩
theorem k_ldcS {a0 : Array Value} {idx n : Nat} {text : String} (G : Ctx Γ Z EL own bytes maxl ret nm rm hs0) (X : W Γ n0 T h C S sf) (w : (Cond.stringLink own idx text).before a0 Z = true) (wS : ∀ a ∈ Bundle.stringAtoms, a.before a0 Z = true) (hd : decode bytes pc = .ok (.ldc idx, 2)) (hp : pc + 2 = pc') (hn : 4 * text.toList.length ≤ n) (hbig : n ≤ 536870912) (hc : C + 2 ≤ rm.cells) (hs : S + (n + 4) ≤ rm.slots) (K : ∀ T h' a, Ext h h' → W Γ n0 T h' (C + 2) (S + (n + 4)) sf → Go Γ n0 Q T (mkF Γ.m pc' Ls (.ref a :: st))) : Go Γ n0 Q T (mkF Γ.m pc Ls st) := by
  subst hp
  obtain ⟨hx, hZ0, hown0, hby, hml, hret, hnm, hlk, hR, hsH, hzz, hel, hew⟩ := G
  subst hzz hel
  obtain ⟨aw, hew⟩ := hew
  obtain ⟨L, vm0, k0, X, e, N, hS, hk, HD⟩ := X
  have hZ : Γ.Z.Warmed39 (Γ.s.setVm vm0).vm := State.Warmed39.trans hZ0 hS.1
  have hown : (Γ.s.setVm vm0).vm.findClass own = some Γ.m.cls := by rw [show (Γ.s.setVm vm0).vm = vm0 from rfl, hS.1.alike.findClass]; exact hown0
  obtain ⟨a, T', h', k1, X', e', E', hS', hk', -, -, c1, -, st'⟩ := ldcOH X hx hZ hown w wS e hS hk hew HD.1.1 (g := mkF Γ.m pc Ls st) rfl (hb hby hd) hn hbig (hR ▸ hc) (hR ▸ hs)
  exact Go.of st' (K T' h' a E' ⟨L, T'.vm, k1, X', e', N, hS', hk', HD.later c1⟩)
theorem k_ldcH {a0 : Array Value} {idx n : Nat} {text : String} {vs : List Int32} {z : Int32} (G : Ctx Γ Z EL own bytes maxl ret nm rm hs0) (X : W Γ n0 T h C S sf) (w : (Cond.stringLink own idx text).before a0 Z = true) (wS : ∀ a ∈ Bundle.stringAtoms, a.before a0 Z = true) (hmem : (own, idx) ∈ EL) (ht : (∀ c ∈ text.toList, c.toNat < 256) ∧ text.toList.map (fun c => Value.int (Jvm.Lit.byteI c.toNat.toUInt16)) = vs.map Value.int) (hz : z.toInt = vs.length) (hd : decode bytes pc = .ok (.ldc idx, 2)) (hp : pc + 2 = pc') (hn : 4 * text.toList.length ≤ n) (hbig : n ≤ 536870912) (hc : C + 2 ≤ rm.cells) (hs : S + (n + 4) ≤ rm.slots) (K : ∀ T h' a b k, Ext h h' → Exa Z h' a "java/lang/String" → Fld Z h' a "java/lang/String" "coder" "B" (.int 0) → Fld Z h' a "java/lang/String" "value" "[B" (.ref b) → Arf Z h' b k .byte vs.length (fun i => .int (vs.getD i 0)) → (∀ x ∈ sf, x ≠ a ∧ x ≠ b) → W Γ n0 T h' (C + 2) (S + (n + 4)) sf → Go Γ n0 Q T (mkF Γ.m pc' Ls (.ref a :: st))) : Go Γ n0 Q T (mkF Γ.m pc Ls st) := by
  subst hp
  obtain ⟨hx, hZ0, hown0, hby, hml, hret, hnm, hlk, hR, hsH, hzz, hel, hew⟩ := G
  subst hzz hel
  obtain ⟨aw, hew⟩ := hew
  obtain ⟨L, vm0, k0, X, e, N, hS, hk, HD⟩ := X
  have hZ : Γ.Z.Warmed39 (Γ.s.setVm vm0).vm := State.Warmed39.trans hZ0 hS.1
  have hown : (Γ.s.setVm vm0).vm.findClass own = some Γ.m.cls := by rw [show (Γ.s.setVm vm0).vm = vm0 from rfl, hS.1.alike.findClass]; exact hown0
  obtain ⟨a, T', h', k1, b, k, X', e', E', hS', hk', -, -, F1, F2, F3, F4, -, -, c1, -, hne, st'⟩ := ldcCH X hx hZ hown w wS e hS hk hew hmem HD.1.1 ht (idx_of hz).1 (by rw [(idx_of hz).2, List.length_map]) (g := mkF Γ.m pc Ls st) rfl (hb hby hd) hn hbig (hR ▸ hc) (hR ▸ hs)
  exact Go.of st' (K T' h' a b k E' F1 F2 F3 (Arf.of_arv F4 hz fun i hi => by rw [List.getD_eq_getElem?_getD, List.getD_eq_getElem?_getD, List.getElem?_map]; cases vs[i]? <;> rfl) (fun x m => hne x ((HD.later c1).2 x m).2) ⟨L, T'.vm, k1, X', e', N, hS', hk', HD.later c1⟩)
theorem W.addA {x : Addr} {k : ClassId} {ty : FieldType} {n : Nat} {f : Nat → Value} (G : Ctx Γ Z EL own bytes maxl ret nm rm hs0) (X : W Γ n0 T h C S sf) (F : Arf Z h x k ty n f) (h1 : ty ≠ .byte) : W Γ n0 T h C S (x :: sf) := by
  obtain ⟨hx, hZ0, hown0, hby, hml, hret, hnm, hlk, hR, hsH, hzz, hel, hew⟩ := G
  subst hzz hel
  obtain ⟨L, v, k, X, e, N, a, b, H⟩ := X
  refine ⟨L, v, k, X, e, N, a, b, H.1, fun y hy => ?_⟩
  rcases List.mem_cons.mp hy with rfl | hy
  · obtain ⟨cl, A, -⟩ := id F; exact ⟨F.lt, Safe.arr (State.Warmed39.trans hZ0 a.1).alike A h1⟩
  · exact H.2 y hy
/-! ### facts -/
theorem W.eq {h' : Heap} (X : W Γ n0 T h' C S sf) (e : h' = h) : W Γ n0 T h C S sf := e ▸ X
theorem Old_le (O : Old Z n0 h) : n0 ≤ h.size := by rw [← O.1]; exact O.2.1
theorem Sta_old {CC n d : String} {v : Value} (O : Old Z n0 h) (F : Sta Z Z.heap CC n d v) : Sta Z h CC n d v := F.ext O.2
theorem Fld_old {CC n d : String} {v : Value} {a : Addr} (O : Old Z n0 h) (F : Fld Z Z.heap a CC n d v) : Fld Z h a CC n d v := F.ext O.2
theorem Exa_old {CC : String} {a : Addr} (O : Old Z n0 h) (F : Exa Z Z.heap a CC) : Exa Z h a CC := F.ext O.2
theorem Sta_keep {h' : Heap} {CC n d : String} {v : Value} (F : Sta Z h CC n d v) (K : Keep h h' []) : Sta Z h' CC n d v := by
  obtain ⟨cf, i, k, f, st, cell, h1, h2, h3, h4, h5, h6, h7⟩ := F
  exact ⟨cf, i, k, f, st, cell, h1, h2, h3, h4, K.2.1 _ _ h5 nin0, h6, h7⟩
def Pln (h : Heap) (a : Addr) : Prop := ∀ cell : Cell, h[a]? = some cell → cell.vm.isStatics = false
theorem Pln_exa {a : Addr} {CC : String} (E : Exa Z h a CC) : Pln h a := fun cell hc => by obtain ⟨c1, _, h1, -, -, h4, -⟩ := E; cases h1.symm.trans hc; exact h4
theorem Pln_fld {a : Addr} {CC n d : String} {v : Value} (F : Fld Z h a CC n d v) : Pln h a := old_plain F
theorem Sta_keepL {h' : Heap} {CC n d : String} {v : Value} {ws : List Addr} (F : Sta Z h CC n d v) (K : Keep h h' ws) (q : ∀ w ∈ ws, Pln h w) : Sta Z h' CC n d v := by
  obtain ⟨cf, i, k, f, st, cell, h1, h2, h3, h4, h5, h6, h7⟩ := F
  exact ⟨cf, i, k, f, st, cell, h1, h2, h3, h4, K.2.1 _ _ h5 (fun hm => by have := q _ hm _ h5; rw [h6] at this; cases this), h6, h7⟩
end K
section Words
variable {s : State} {args : Array Value}
theorem s_exa {CC K n d : String} (hx : (Cond.exactly (Term.static CC n d) K).value args s none s [] = some true) (hi : (Cond.initialized CC).before args s = true) (hl : (Cond.laysStatic CC n d).before args s = true) : ∃ a, Sta s s.heap CC n d (.ref a) ∧ Exa s s.heap a K ∧ (Term.static CC n d).eval args s none [] s = some (.ref a) := by
  obtain ⟨a, ev⟩ := exa_v hx
  exact ⟨a, Sta.start ev (Or.inr ⟨hi, hl⟩), Exa.start ev hx, ev⟩
theorem s_fldI {t : Term} {a : Addr} {O n d : String} {z : Int32} (ev : t.eval args s none [] s = some (.ref a)) (hx : (Cond.eq (Term.field t O n d) (Term.int z)).value args s none s [] = some true) : Fld s s.heap a O n d (.int z) := by
  refine Fld.start ?_
  rw [← fld_at (args := args) (first := s) (o := none) (idx := []) ev]
  simp only [Cond.value, Term.int_eval] at hx
  cases hf : (Term.field t O n d).eval args s none [] s with
  | none => simp [hf] at hx
  | some v => cases v <;> simp [hf] at hx; rw [hx]
theorem s_fldN {t : Term} {a : Addr} {O n d : String} (ev : t.eval args s none [] s = some (.ref a)) (hx : (Cond.eq (Term.field t O n d) Term.null).value args s none s [] = some true) : Fld s s.heap a O n d .null := by
  refine Fld.start ?_
  rw [← fld_at (args := args) (first := s) (o := none) (idx := []) ev]
  exact null_v hx
theorem s_fldX {t : Term} {a : Addr} {O n d K : String} (ev : t.eval args s none [] s = some (.ref a)) (hx : (Cond.exactly (Term.field t O n d) K).value args s none s [] = some true) : ∃ b, Fld s s.heap a O n d (.ref b) ∧ Exa s s.heap b K := by
  obtain ⟨b, eb⟩ := exa_v hx
  refine ⟨b, Fld.start ?_, Exa.start eb hx⟩
  rw [← fld_at (args := args) (first := s) (o := none) (idx := []) ev]; exact eb
theorem len_none {t : Term} {x : Addr} {cl : Cell} {first : State} {o : Option Outcome} {idx : List Nat} (ht : t.eval args first o idx s = some (.ref x)) (ha : s.arrayAt? x = some cl) (hl : ¬ cl.slots.size < 2 ^ 31) : (Term.length t).eval args first o idx s = none := by simp [Term.eval, ht, ha, hl]
theorem s_arr2 {CC n d : String} {E : String} (hx : (Cond.exactly (Term.static CC n d) E).before args s = true) (hi : (Cond.initializedFor CC n d).before args s = true ∨ ((Cond.initialized CC).before args s = true ∧ (Cond.laysStatic CC n d).before args s = true)) (ha : (Cond.arrayOf (Term.static CC n d) (.object "java/lang/Object")).before args s = true) (hl : (Cond.eq (Term.length (Term.static CC n d)) (Term.int 0)).before args s = true) : ∃ a k, Sta s s.heap CC n d (.ref a) ∧ Arf s s.heap a k (.object "java/lang/Object") 0 (fun _ => .null) := by
  obtain ⟨a, ev⟩ := exa_v (Cond.before_iff.mp hx)
  obtain ⟨c, A⟩ := Arr.start ev (Cond.before_iff.mp ha)
  refine ⟨a, c.cls, Sta.start ev hi, c, A, rfl, ?_, by decide, fun i hi => absurd hi (Nat.not_lt_zero _)⟩
  have hl' := Cond.before_iff.mp hl
  have A2 := A.fin (Vm.Alike.refl _)
  by_cases hb : c.slots.size < 2 ^ 31
  · have q := gotT (Cond.eq_ints (len_f ev A2 hb) (Term.int_eval 0)) hl'
    have := congrArg Int32.toInt q
    rw [len_toInt hb, z32] at this
    omega
  · exfalso
    have : (Term.length (Term.static CC n d)).eval args s none [] s = none := len_none ev A2 hb
    simp [Cond.value, this] at hl'
theorem s_cs {CC n d : String} (h0 : (Cond.initializedFor CC n d).before args s = true) (h1 : (Cond.isInt (Term.static CC n d)).before args s = true) (h2 : (Cond.not (Cond.eq (Term.static CC n d) (Term.int 0))).before args s = true) : ∃ cs : Int32, Sta s s.heap CC n d (.int cs) ∧ cs ≠ 0 := by
  obtain ⟨x, ev⟩ := is_v (Cond.before_iff.mp h1)
  refine ⟨x, Sta.start ev (Or.inl h0), fun q => ?_⟩
  have := not_v (Cond.before_iff.mp h2)
  subst q
  rw [eq_i ev (Term.int_eval 0) rfl] at this
  cases this
end Words
theorem lcmp_self (x : Int64) : (if x > x then (1 : Int32) else if x = x then 0 else -1) = 0 := by rw [if_neg (Int64.lt_irrefl), if_pos rfl]
theorem of_toInt {z w : Int32} (h : z.toInt = w.toInt) : z = w := Int32.toInt_inj.mp h
theorem of_toInt64 {z w : Int64} (h : z.toInt = w.toInt) : z = w := Int64.toInt_inj.mp h
theorem rgI (x : Int32) : -2147483648 ≤ x.toInt ∧ x.toInt < 2147483648 := ⟨Int32.le_toInt x, Int32.toInt_lt x⟩
theorem rgL (x : Int64) : -9223372036854775808 ≤ x.toInt ∧ x.toInt < 9223372036854775808 := ⟨Int64.le_toInt x, Int64.toInt_lt x⟩
theorem and_rng (x : Int32) {m : Int32} (k : Int) (hk : m.toInt = k) (h : 0 ≤ k) : 0 ≤ (x &&& m).toInt ∧ (x &&& m).toInt ≤ k := by subst hk; exact c_and x m h
theorem rem_rng (x : Int32) {y : Int32} (d : Int) (hy : y.toInt = d) (hd : 0 < d) (hx : 0 ≤ x.toInt) : 0 ≤ (x % y).toInt ∧ (x % y).toInt < d := by
  rw [(c_irem x y d hy).1 hx]; exact ⟨Int.emod_nonneg _ (by omega), Int.emod_lt_of_pos _ hd⟩
theorem iadd_toInt {x y : Int32} (h1 : -2147483648 ≤ x.toInt + y.toInt) (h2 : x.toInt + y.toInt < 2147483648) : (x + y).toInt = x.toInt + y.toInt := by
  have := c_iadd x y; have := rgI (x + y); omega
theorem isub_toInt {x y : Int32} (h1 : -2147483648 ≤ x.toInt - y.toInt) (h2 : x.toInt - y.toInt < 2147483648) : (x - y).toInt = x.toInt - y.toInt := by
  have := c_isub x y; have := rgI (x - y); omega
theorem ladd_toInt {x y : Int64} (h1 : -9223372036854775808 ≤ x.toInt + y.toInt) (h2 : x.toInt + y.toInt < 9223372036854775808) : (x + y).toInt = x.toInt + y.toInt := by
  have := c_ladd x y; have := rgL (x + y); omega
theorem lcmp_toInt {x y : Int64} {z : Int32} (q : (if x > y then (1 : Int32) else if x = y then 0 else -1) = z) : (x.toInt < y.toInt → z.toInt = -1) ∧ (x.toInt = y.toInt → z.toInt = 0) ∧ (y.toInt < x.toInt → z.toInt = 1) := by
  subst q; exact c_lcmp x y
theorem and3 (x : Int32) : x &&& 3 = 0 ∨ x &&& 3 = 1 ∨ x &&& 3 = 2 ∨ x &&& 3 = 3 := by
  have h : ∀ b : BitVec 32, b &&& 3#32 = 0#32 ∨ b &&& 3#32 = 1#32 ∨ b &&& 3#32 = 2#32 ∨ b &&& 3#32 = 3#32 := fun b => by
    have e : (b &&& 3#32).toNat < 4 := by rw [BitVec.toNat_and]; exact Nat.lt_of_le_of_lt Nat.and_le_right (by decide)
    have : (b &&& 3#32).toNat = 0 ∨ (b &&& 3#32).toNat = 1 ∨ (b &&& 3#32).toNat = 2 ∨ (b &&& 3#32).toNat = 3 := by omega
    rcases this with q | q | q | q
    · exact Or.inl (BitVec.eq_of_toNat_eq q)
    · exact Or.inr (Or.inl (BitVec.eq_of_toNat_eq q))
    · exact Or.inr (Or.inr (Or.inl (BitVec.eq_of_toNat_eq q)))
    · exact Or.inr (Or.inr (Or.inr (BitVec.eq_of_toNat_eq q)))
  rcases h x.toBitVec with q | q | q | q
  · exact Or.inl (Int32.toBitVec_inj.mp q)
  · exact Or.inr (Or.inl (Int32.toBitVec_inj.mp q))
  · exact Or.inr (Or.inr (Or.inl (Int32.toBitVec_inj.mp q)))
  · exact Or.inr (Or.inr (Or.inr (Int32.toBitVec_inj.mp q)))
end Jvm.OwnK
namespace Jvm.Pilot.@@N@@
open Jvm Jvm.ClassFile Sem Op Lib Jvm.Free Jvm.Stand Jvm.LawKit Jvm.RoadKit Jvm.OwnK Bundle Jvm.Pilot.@@N@@.Jvm.D
abbrev HW (a0 : Array Value) (Z : State) : Prop := ∀ d ∈ tables_1, d.before a0 Z = true
section Wds
variable {a0 : Array Value} {Z : State}
theorem w0 (hw : HW a0 Z) : Jvm.Cond.before (Jvm.Cond.methodLink "com/example/changeline/changeline/change/TableNameEqualsPinLaw" (12 : Nat) ({ cls := "com/example/changeline/changeline/change/TableNameEqualsPinLaw", name := "mk", desc := "(III)Ljava/lang/String;" } : Jvm.MethodName)) a0 Z = true := hw _ (List.mem_of_getElem? (i := 0) rfl)
theorem w1 (hw : HW a0 Z) : Jvm.Cond.before (Jvm.Cond.static ({ cls := "com/example/changeline/changeline/change/TableNameEqualsPinLaw", name := "mk", desc := "(III)Ljava/lang/String;" } : Jvm.MethodName)) a0 Z = true := hw _ (List.mem_of_getElem? (i := 1) rfl)
theorem w2 (hw : HW a0 Z) : Jvm.Cond.before (Jvm.Cond.initialized "com/example/changeline/changeline/change/TableNameEqualsPinLaw") a0 Z = true := hw _ (List.mem_of_getElem? (i := 2) rfl)
theorem w3 (hw : HW a0 Z) : Jvm.Cond.before (Jvm.Cond.code ({ cls := "com/example/changeline/changeline/change/TableNameEqualsPinLaw", name := "mk", desc := "(III)Ljava/lang/String;" } : Jvm.MethodName) method_2_code (3 : Nat) (Option.some (Jvm.ClassFile.FieldType.object "java/lang/String"))) a0 Z = true := hw _ (List.mem_of_getElem? (i := 3) rfl)
theorem w4 (hw : HW a0 Z) : Jvm.Cond.before (Jvm.Cond.classLink "com/example/changeline/changeline/change/TableNameEqualsPinLaw" (7 : Nat) "java/lang/String") a0 Z = true := hw _ (List.mem_of_getElem? (i := 4) rfl)
theorem w5 (hw : HW a0 Z) : Jvm.Cond.before (Jvm.Cond.instantiable "java/lang/String" (4 : Nat)) a0 Z = true := hw _ (List.mem_of_getElem? (i := 5) rfl)
theorem w6 (hw : HW a0 Z) : Jvm.Cond.before (Jvm.Cond.initialized "java/lang/String") a0 Z = true := hw _ (List.mem_of_getElem? (i := 6) rfl)
theorem w7 (hw : HW a0 Z) : Jvm.Cond.before (Jvm.Cond.arrayClass Jvm.ClassFile.FieldType.char) a0 Z = true := hw _ (List.mem_of_getElem? (i := 7) rfl)
theorem w8 (hw : HW a0 Z) : Jvm.Cond.before (Jvm.Cond.methodLink "com/example/changeline/changeline/change/TableNameEqualsPinLaw" (9 : Nat) ({ cls := "java/lang/String", name := "<init>", desc := "([C)V" } : Jvm.MethodName)) a0 Z = true := hw _ (List.mem_of_getElem? (i := 8) rfl)
theorem w9 (hw : HW a0 Z) : Jvm.Cond.before (Jvm.Cond.instanceMethod ({ cls := "java/lang/String", name := "<init>", desc := "([C)V" } : Jvm.MethodName)) a0 Z = true := hw _ (List.mem_of_getElem? (i := 9) rfl)
theorem w10 (hw : HW a0 Z) : Jvm.Cond.before (Jvm.Cond.code ({ cls := "java/lang/String", name := "<init>", desc := "([C)V" } : Jvm.MethodName) jdk_42_method_3_code (2 : Nat) (Option.none : Option Jvm.ClassFile.FieldType)) a0 Z = true := hw _ (List.mem_of_getElem? (i := 10) rfl)
theorem w11 (hw : HW a0 Z) : Jvm.Cond.before (Jvm.Cond.methodLink "java/lang/String" (27 : Nat) ({ cls := "java/lang/String", name := "<init>", desc := "([CIILjava/lang/Void;)V" } : Jvm.MethodName)) a0 Z = true := hw _ (List.mem_of_getElem? (i := 11) rfl)
theorem w12 (hw : HW a0 Z) : Jvm.Cond.before (Jvm.Cond.instanceMethod ({ cls := "java/lang/String", name := "<init>", desc := "([CIILjava/lang/Void;)V" } : Jvm.MethodName)) a0 Z = true := hw _ (List.mem_of_getElem? (i := 12) rfl)
theorem w14 (hw : HW a0 Z) : Jvm.Cond.before (Jvm.Cond.code ({ cls := "java/lang/String", name := "<init>", desc := "([CIILjava/lang/Void;)V" } : Jvm.MethodName) jdk_42_method_149_code (6 : Nat) (Option.none : Option Jvm.ClassFile.FieldType)) a0 Z = true := hw _ (List.mem_of_getElem? (i := 14) rfl)
theorem w15 (hw : HW a0 Z) : Jvm.Cond.before (Jvm.Cond.methodLink "java/lang/String" (1 : Nat) ({ cls := "java/lang/Object", name := "<init>", desc := "()V" } : Jvm.MethodName)) a0 Z = true := hw _ (List.mem_of_getElem? (i := 15) rfl)
theorem w16 (hw : HW a0 Z) : Jvm.Cond.before (Jvm.Cond.instanceMethod ({ cls := "java/lang/Object", name := "<init>", desc := "()V" } : Jvm.MethodName)) a0 Z = true := hw _ (List.mem_of_getElem? (i := 16) rfl)
theorem w17 (hw : HW a0 Z) : Jvm.Cond.before (Jvm.Cond.code ({ cls := "java/lang/Object", name := "<init>", desc := "()V" } : Jvm.MethodName) object_method_1_code (1 : Nat) (Option.none : Option Jvm.ClassFile.FieldType)) a0 Z = true := hw _ (List.mem_of_getElem? (i := 17) rfl)
theorem w18 (hw : HW a0 Z) : Jvm.Cond.before (Jvm.Cond.fieldLink "java/lang/String" (38 : Nat) "java/lang/String" "COMPACT_STRINGS" "Z") a0 Z = true := hw _ (List.mem_of_getElem? (i := 18) rfl)
theorem w19 (hw : HW a0 Z) : Jvm.Cond.before (Jvm.Cond.methodLink "java/lang/String" (177 : Nat) ({ cls := "java/lang/StringUTF16", name := "compress", desc := "([CII)[B" } : Jvm.MethodName)) a0 Z = true := hw _ (List.mem_of_getElem? (i := 19) rfl)
theorem w20 (hw : HW a0 Z) : Jvm.Cond.before (Jvm.Cond.static ({ cls := "java/lang/StringUTF16", name := "compress", desc := "([CII)[B" } : Jvm.MethodName)) a0 Z = true := hw _ (List.mem_of_getElem? (i := 20) rfl)
theorem w21 (hw : HW a0 Z) : Jvm.Cond.before (Jvm.Cond.initialized "java/lang/StringUTF16") a0 Z = true := hw _ (List.mem_of_getElem? (i := 21) rfl)
theorem w22 (hw : HW a0 Z) : Jvm.Cond.before (Jvm.Cond.code ({ cls := "java/lang/StringUTF16", name := "compress", desc := "([CII)[B" } : Jvm.MethodName) jdk_52_method_16_code (6 : Nat) (Option.some (Jvm.ClassFile.FieldType.array Jvm.ClassFile.FieldType.byte))) a0 Z = true := hw _ (List.mem_of_getElem? (i := 22) rfl)
theorem w23 (hw : HW a0 Z) : Jvm.Cond.before (Jvm.Cond.arrayClass Jvm.ClassFile.FieldType.byte) a0 Z = true := hw _ (List.mem_of_getElem? (i := 23) rfl)
theorem w24 (hw : HW a0 Z) : Jvm.Cond.before (Jvm.Cond.methodLink "java/lang/StringUTF16" (115 : Nat) ({ cls := "java/lang/StringUTF16", name := "compress", desc := "([CI[BII)I" } : Jvm.MethodName)) a0 Z = true := hw _ (List.mem_of_getElem? (i := 24) rfl)
theorem w25 (hw : HW a0 Z) : Jvm.Cond.before (Jvm.Cond.static ({ cls := "java/lang/StringUTF16", name := "compress", desc := "([CI[BII)I" } : Jvm.MethodName)) a0 Z = true := hw _ (List.mem_of_getElem? (i := 25) rfl)
theorem w26 (hw : HW a0 Z) : Jvm.Cond.before (Jvm.Cond.code ({ cls := "java/lang/StringUTF16", name := "compress", desc := "([CI[BII)I" } : Jvm.MethodName) jdk_52_method_21_code (7 : Nat) (Option.some Jvm.ClassFile.FieldType.int)) a0 Z = true := hw _ (List.mem_of_getElem? (i := 26) rfl)
theorem w27 (hw : HW a0 Z) : Jvm.Cond.before (Jvm.Cond.methodLink "java/lang/String" (47 : Nat) ({ cls := "java/lang/StringUTF16", name := "coderFromArrayLen", desc := "([BI)B" } : Jvm.MethodName)) a0 Z = true := hw _ (List.mem_of_getElem? (i := 27) rfl)
theorem w28 (hw : HW a0 Z) : Jvm.Cond.before (Jvm.Cond.static ({ cls := "java/lang/StringUTF16", name := "coderFromArrayLen", desc := "([BI)B" } : Jvm.MethodName)) a0 Z = true := hw _ (List.mem_of_getElem? (i := 28) rfl)
theorem w29 (hw : HW a0 Z) : Jvm.Cond.before (Jvm.Cond.code ({ cls := "java/lang/StringUTF16", name := "coderFromArrayLen", desc := "([BI)B" } : Jvm.MethodName) jdk_52_method_15_code (2 : Nat) (Option.some Jvm.ClassFile.FieldType.byte)) a0 Z = true := hw _ (List.mem_of_getElem? (i := 29) rfl)
theorem w30 (hw : HW a0 Z) : Jvm.Cond.before (Jvm.Cond.fieldLink "java/lang/String" (15 : Nat) "java/lang/String" "coder" "B") a0 Z = true := hw _ (List.mem_of_getElem? (i := 30) rfl)
theorem w31 (hw : HW a0 Z) : Jvm.Cond.before (Jvm.Cond.laysFinal "java/lang/String" "java/lang/String" "coder" "B") a0 Z = true := hw _ (List.mem_of_getElem? (i := 31) rfl)
theorem w32 (hw : HW a0 Z) : Jvm.Cond.before (Jvm.Cond.fieldLink "java/lang/String" (9 : Nat) "java/lang/String" "value" "[B") a0 Z = true := hw _ (List.mem_of_getElem? (i := 32) rfl)
theorem w33 (hw : HW a0 Z) : Jvm.Cond.before (Jvm.Cond.laysFinal "java/lang/String" "java/lang/String" "value" "[B") a0 Z = true := hw _ (List.mem_of_getElem? (i := 33) rfl)
theorem w34 (hw : HW a0 Z) : Jvm.Cond.before (Jvm.Cond.classLink "com/example/changeline/changeline/change/TableNameEqualsPinLaw" (18 : Nat) "com/example/changeline/changeline/change/TableName") a0 Z = true := hw _ (List.mem_of_getElem? (i := 34) rfl)
theorem w35 (hw : HW a0 Z) : Jvm.Cond.before (Jvm.Cond.instantiable "com/example/changeline/changeline/change/TableName" (4 : Nat)) a0 Z = true := hw _ (List.mem_of_getElem? (i := 35) rfl)
theorem w36 (hw : HW a0 Z) : Jvm.Cond.before (Jvm.Cond.initialized "com/example/changeline/changeline/change/TableName") a0 Z = true := hw _ (List.mem_of_getElem? (i := 36) rfl)
theorem w37 (hw : HW a0 Z) : Jvm.Cond.before (Jvm.Cond.methodLink "com/example/changeline/changeline/change/TableNameEqualsPinLaw" (20 : Nat) ({ cls := "com/example/changeline/changeline/change/TableName", name := "<init>", desc := "(Ljava/lang/String;Ljava/lang/String;)V" } : Jvm.MethodName)) a0 Z = true := hw _ (List.mem_of_getElem? (i := 37) rfl)
theorem w38 (hw : HW a0 Z) : Jvm.Cond.before (Jvm.Cond.instanceMethod ({ cls := "com/example/changeline/changeline/change/TableName", name := "<init>", desc := "(Ljava/lang/String;Ljava/lang/String;)V" } : Jvm.MethodName)) a0 Z = true := hw _ (List.mem_of_getElem? (i := 38) rfl)
theorem w39 (hw : HW a0 Z) : Jvm.Cond.before (Jvm.Cond.code ({ cls := "com/example/changeline/changeline/change/TableName", name := "<init>", desc := "(Ljava/lang/String;Ljava/lang/String;)V" } : Jvm.MethodName) prog_13_method_1_code (3 : Nat) (Option.none : Option Jvm.ClassFile.FieldType)) a0 Z = true := hw _ (List.mem_of_getElem? (i := 39) rfl)
theorem w40 (hw : HW a0 Z) : Jvm.Cond.before (Jvm.Cond.methodLink "com/example/changeline/changeline/change/TableName" (1 : Nat) ({ cls := "java/lang/Object", name := "<init>", desc := "()V" } : Jvm.MethodName)) a0 Z = true := hw _ (List.mem_of_getElem? (i := 40) rfl)
theorem w41 (hw : HW a0 Z) : Jvm.Cond.before (Jvm.Cond.stringLink "com/example/changeline/changeline/change/TableName" (7 : Nat) "schema") a0 Z = true := hw _ (List.mem_of_getElem? (i := 41) rfl)
theorem w44 (hw : HW a0 Z) : Jvm.Cond.before (Jvm.Cond.methodLink "com/example/changeline/changeline/change/TableName" (9 : Nat) ({ cls := "java/util/Objects", name := "requireNonNull", desc := "(Ljava/lang/Object;Ljava/lang/String;)Ljava/lang/Object;" } : Jvm.MethodName)) a0 Z = true := hw _ (List.mem_of_getElem? (i := 44) rfl)
theorem w45 (hw : HW a0 Z) : Jvm.Cond.before (Jvm.Cond.static ({ cls := "java/util/Objects", name := "requireNonNull", desc := "(Ljava/lang/Object;Ljava/lang/String;)Ljava/lang/Object;" } : Jvm.MethodName)) a0 Z = true := hw _ (List.mem_of_getElem? (i := 45) rfl)
theorem w46 (hw : HW a0 Z) : Jvm.Cond.before (Jvm.Cond.initialized "java/util/Objects") a0 Z = true := hw _ (List.mem_of_getElem? (i := 46) rfl)
theorem w47 (hw : HW a0 Z) : Jvm.Cond.before (Jvm.Cond.code ({ cls := "java/util/Objects", name := "requireNonNull", desc := "(Ljava/lang/Object;Ljava/lang/String;)Ljava/lang/Object;" } : Jvm.MethodName) jdk_31_method_11_code (2 : Nat) (Option.some (Jvm.ClassFile.FieldType.object "java/lang/Object"))) a0 Z = true := hw _ (List.mem_of_getElem? (i := 47) rfl)
theorem w48 (hw : HW a0 Z) : Jvm.Cond.before (Jvm.Cond.stringLink "com/example/changeline/changeline/change/TableName" (15 : Nat) "name") a0 Z = true := hw _ (List.mem_of_getElem? (i := 48) rfl)
theorem w49 (hw : HW a0 Z) : Jvm.Cond.before (Jvm.Cond.methodLink "com/example/changeline/changeline/change/TableName" (17 : Nat) ({ cls := "java/lang/String", name := "isEmpty", desc := "()Z" } : Jvm.MethodName)) a0 Z = true := hw _ (List.mem_of_getElem? (i := 49) rfl)
theorem w50 (hw : HW a0 Z) : Jvm.Cond.before (Jvm.Cond.declares ({ cls := "java/lang/String", name := "isEmpty", desc := "()Z" } : Jvm.MethodName)) a0 Z = true := hw _ (List.mem_of_getElem? (i := 50) rfl)
theorem w51 (hw : HW a0 Z) : Jvm.Cond.before (Jvm.Cond.instanceMethod ({ cls := "java/lang/String", name := "isEmpty", desc := "()Z" } : Jvm.MethodName)) a0 Z = true := hw _ (List.mem_of_getElem? (i := 51) rfl)
theorem w52 (hw : HW a0 Z) : Jvm.Cond.before (Jvm.Cond.selects "java/lang/String" ({ cls := "java/lang/String", name := "isEmpty", desc := "()Z" } : Jvm.MethodName) ({ cls := "java/lang/String", name := "isEmpty", desc := "()Z" } : Jvm.MethodName)) a0 Z = true := hw _ (List.mem_of_getElem? (i := 52) rfl)
theorem w53 (hw : HW a0 Z) : Jvm.Cond.before (Jvm.Cond.code ({ cls := "java/lang/String", name := "isEmpty", desc := "()Z" } : Jvm.MethodName) jdk_42_method_55_code (1 : Nat) (Option.some Jvm.ClassFile.FieldType.boolean)) a0 Z = true := hw _ (List.mem_of_getElem? (i := 53) rfl)
theorem w54 (hw : HW a0 Z) : Jvm.Cond.before (Jvm.Cond.fieldLink "com/example/changeline/changeline/change/TableName" (30 : Nat) "com/example/changeline/changeline/change/TableName" "schema" "Ljava/lang/String;") a0 Z = true := hw _ (List.mem_of_getElem? (i := 54) rfl)
theorem w55 (hw : HW a0 Z) : Jvm.Cond.before (Jvm.Cond.laysFinal "com/example/changeline/changeline/change/TableName" "com/example/changeline/changeline/change/TableName" "schema" "Ljava/lang/String;") a0 Z = true := hw _ (List.mem_of_getElem? (i := 55) rfl)
theorem w56 (hw : HW a0 Z) : Jvm.Cond.before (Jvm.Cond.fieldLink "com/example/changeline/changeline/change/TableName" (35 : Nat) "com/example/changeline/changeline/change/TableName" "name" "Ljava/lang/String;") a0 Z = true := hw _ (List.mem_of_getElem? (i := 56) rfl)
theorem w57 (hw : HW a0 Z) : Jvm.Cond.before (Jvm.Cond.laysFinal "com/example/changeline/changeline/change/TableName" "com/example/changeline/changeline/change/TableName" "name" "Ljava/lang/String;") a0 Z = true := hw _ (List.mem_of_getElem? (i := 57) rfl)
theorem w58 (hw : HW a0 Z) : Jvm.Cond.before (Jvm.Cond.classLink "com/example/changeline/changeline/change/TableName" (37 : Nat) "java/lang/StringBuilder") a0 Z = true := hw _ (List.mem_of_getElem? (i := 58) rfl)
theorem w59 (hw : HW a0 Z) : Jvm.Cond.before (Jvm.Cond.instantiable "java/lang/StringBuilder" (4 : Nat)) a0 Z = true := hw _ (List.mem_of_getElem? (i := 59) rfl)
theorem w60 (hw : HW a0 Z) : Jvm.Cond.before (Jvm.Cond.initialized "java/lang/StringBuilder") a0 Z = true := hw _ (List.mem_of_getElem? (i := 60) rfl)
theorem w61 (hw : HW a0 Z) : Jvm.Cond.before (Jvm.Cond.methodLink "com/example/changeline/changeline/change/TableName" (39 : Nat) ({ cls := "java/lang/StringBuilder", name := "<init>", desc := "()V" } : Jvm.MethodName)) a0 Z = true := hw _ (List.mem_of_getElem? (i := 61) rfl)
theorem w62 (hw : HW a0 Z) : Jvm.Cond.before (Jvm.Cond.instanceMethod ({ cls := "java/lang/StringBuilder", name := "<init>", desc := "()V" } : Jvm.MethodName)) a0 Z = true := hw _ (List.mem_of_getElem? (i := 62) rfl)
theorem w63 (hw : HW a0 Z) : Jvm.Cond.before (Jvm.Cond.code ({ cls := "java/lang/StringBuilder", name := "<init>", desc := "()V" } : Jvm.MethodName) jdk_67_method_1_code (1 : Nat) (Option.none : Option Jvm.ClassFile.FieldType)) a0 Z = true := hw _ (List.mem_of_getElem? (i := 63) rfl)
theorem w64 (hw : HW a0 Z) : Jvm.Cond.before (Jvm.Cond.methodLink "java/lang/StringBuilder" (1 : Nat) ({ cls := "java/lang/AbstractStringBuilder", name := "<init>", desc := "(I)V" } : Jvm.MethodName)) a0 Z = true := hw _ (List.mem_of_getElem? (i := 64) rfl)
theorem w65 (hw : HW a0 Z) : Jvm.Cond.before (Jvm.Cond.instanceMethod ({ cls := "java/lang/AbstractStringBuilder", name := "<init>", desc := "(I)V" } : Jvm.MethodName)) a0 Z = true := hw _ (List.mem_of_getElem? (i := 65) rfl)
theorem w68 (hw : HW a0 Z) : Jvm.Cond.before (Jvm.Cond.initialized "java/lang/AbstractStringBuilder") a0 Z = true := hw _ (List.mem_of_getElem? (i := 68) rfl)
theorem w69 (hw : HW a0 Z) : Jvm.Cond.before (Jvm.Cond.code ({ cls := "java/lang/AbstractStringBuilder", name := "<init>", desc := "(I)V" } : Jvm.MethodName) jdk_68_method_2_code (2 : Nat) (Option.none : Option Jvm.ClassFile.FieldType)) a0 Z = true := hw _ (List.mem_of_getElem? (i := 69) rfl)
theorem w70 (hw : HW a0 Z) : Jvm.Cond.before (Jvm.Cond.methodLink "java/lang/AbstractStringBuilder" (3 : Nat) ({ cls := "java/lang/Object", name := "<init>", desc := "()V" } : Jvm.MethodName)) a0 Z = true := hw _ (List.mem_of_getElem? (i := 70) rfl)
theorem w71 (hw : HW a0 Z) : Jvm.Cond.before (Jvm.Cond.fieldLink "java/lang/AbstractStringBuilder" (18 : Nat) "java/lang/String" "COMPACT_STRINGS" "Z") a0 Z = true := hw _ (List.mem_of_getElem? (i := 71) rfl)
theorem w72 (hw : HW a0 Z) : Jvm.Cond.before (Jvm.Cond.fieldLink "java/lang/AbstractStringBuilder" (15 : Nat) "java/lang/AbstractStringBuilder" "value" "[B") a0 Z = true := hw _ (List.mem_of_getElem? (i := 72) rfl)
theorem w73 (hw : HW a0 Z) : Jvm.Cond.before (Jvm.Cond.lays "java/lang/StringBuilder" "java/lang/AbstractStringBuilder" "value" "[B") a0 Z = true := hw _ (List.mem_of_getElem? (i := 73) rfl)
theorem w74 (hw : HW a0 Z) : Jvm.Cond.before (Jvm.Cond.fieldLink "java/lang/AbstractStringBuilder" (22 : Nat) "java/lang/AbstractStringBuilder" "coder" "B") a0 Z = true := hw _ (List.mem_of_getElem? (i := 74) rfl)
theorem w75 (hw : HW a0 Z) : Jvm.Cond.before (Jvm.Cond.lays "java/lang/StringBuilder" "java/lang/AbstractStringBuilder" "coder" "B") a0 Z = true := hw _ (List.mem_of_getElem? (i := 75) rfl)
theorem w76 (hw : HW a0 Z) : Jvm.Cond.before (Jvm.Cond.methodLink "com/example/changeline/changeline/change/TableName" (40 : Nat) ({ cls := "java/lang/StringBuilder", name := "append", desc := "(Ljava/lang/String;)Ljava/lang/StringBuilder;" } : Jvm.MethodName)) a0 Z = true := hw _ (List.mem_of_getElem? (i := 76) rfl)
theorem w77 (hw : HW a0 Z) : Jvm.Cond.before (Jvm.Cond.declares ({ cls := "java/lang/StringBuilder", name := "append", desc := "(Ljava/lang/String;)Ljava/lang/StringBuilder;" } : Jvm.MethodName)) a0 Z = true := hw _ (List.mem_of_getElem? (i := 77) rfl)
theorem w78 (hw : HW a0 Z) : Jvm.Cond.before (Jvm.Cond.instanceMethod ({ cls := "java/lang/StringBuilder", name := "append", desc := "(Ljava/lang/String;)Ljava/lang/StringBuilder;" } : Jvm.MethodName)) a0 Z = true := hw _ (List.mem_of_getElem? (i := 78) rfl)
theorem w79 (hw : HW a0 Z) : Jvm.Cond.before (Jvm.Cond.selects "java/lang/StringBuilder" ({ cls := "java/lang/StringBuilder", name := "append", desc := "(Ljava/lang/String;)Ljava/lang/StringBuilder;" } : Jvm.MethodName) ({ cls := "java/lang/StringBuilder", name := "append", desc := "(Ljava/lang/String;)Ljava/lang/StringBuilder;" } : Jvm.MethodName)) a0 Z = true := hw _ (List.mem_of_getElem? (i := 79) rfl)
theorem w80 (hw : HW a0 Z) : Jvm.Cond.before (Jvm.Cond.code ({ cls := "java/lang/StringBuilder", name := "append", desc := "(Ljava/lang/String;)Ljava/lang/StringBuilder;" } : Jvm.MethodName) jdk_67_method_7_code (2 : Nat) (Option.some (Jvm.ClassFile.FieldType.object "java/lang/StringBuilder"))) a0 Z = true := hw _ (List.mem_of_getElem? (i := 80) rfl)
theorem w81 (hw : HW a0 Z) : Jvm.Cond.before (Jvm.Cond.methodLink "java/lang/StringBuilder" (29 : Nat) ({ cls := "java/lang/AbstractStringBuilder", name := "append", desc := "(Ljava/lang/String;)Ljava/lang/AbstractStringBuilder;" } : Jvm.MethodName)) a0 Z = true := hw _ (List.mem_of_getElem? (i := 81) rfl)
theorem w82 (hw : HW a0 Z) : Jvm.Cond.before (Jvm.Cond.instanceMethod ({ cls := "java/lang/AbstractStringBuilder", name := "append", desc := "(Ljava/lang/String;)Ljava/lang/AbstractStringBuilder;" } : Jvm.MethodName)) a0 Z = true := hw _ (List.mem_of_getElem? (i := 82) rfl)
theorem w83 (hw : HW a0 Z) : Jvm.Cond.before (Jvm.Cond.superclass "java/lang/StringBuilder" "java/lang/AbstractStringBuilder") a0 Z = true := hw _ (List.mem_of_getElem? (i := 83) rfl)
theorem w85 (hw : HW a0 Z) : Jvm.Cond.before (Jvm.Cond.code ({ cls := "java/lang/AbstractStringBuilder", name := "append", desc := "(Ljava/lang/String;)Ljava/lang/AbstractStringBuilder;" } : Jvm.MethodName) jdk_68_method_22_code (3 : Nat) (Option.some (Jvm.ClassFile.FieldType.object "java/lang/AbstractStringBuilder"))) a0 Z = true := hw _ (List.mem_of_getElem? (i := 85) rfl)
theorem w86 (hw : HW a0 Z) : Jvm.Cond.before (Jvm.Cond.methodLink "java/lang/AbstractStringBuilder" (32 : Nat) ({ cls := "java/lang/String", name := "length", desc := "()I" } : Jvm.MethodName)) a0 Z = true := hw _ (List.mem_of_getElem? (i := 86) rfl)
theorem w87 (hw : HW a0 Z) : Jvm.Cond.before (Jvm.Cond.declares ({ cls := "java/lang/String", name := "length", desc := "()I" } : Jvm.MethodName)) a0 Z = true := hw _ (List.mem_of_getElem? (i := 87) rfl)
theorem w88 (hw : HW a0 Z) : Jvm.Cond.before (Jvm.Cond.instanceMethod ({ cls := "java/lang/String", name := "length", desc := "()I" } : Jvm.MethodName)) a0 Z = true := hw _ (List.mem_of_getElem? (i := 88) rfl)
theorem w89 (hw : HW a0 Z) : Jvm.Cond.before (Jvm.Cond.selects "java/lang/String" ({ cls := "java/lang/String", name := "length", desc := "()I" } : Jvm.MethodName) ({ cls := "java/lang/String", name := "length", desc := "()I" } : Jvm.MethodName)) a0 Z = true := hw _ (List.mem_of_getElem? (i := 89) rfl)
theorem w90 (hw : HW a0 Z) : Jvm.Cond.before (Jvm.Cond.code ({ cls := "java/lang/String", name := "length", desc := "()I" } : Jvm.MethodName) jdk_42_method_54_code (1 : Nat) (Option.some Jvm.ClassFile.FieldType.int)) a0 Z = true := hw _ (List.mem_of_getElem? (i := 90) rfl)
theorem w91 (hw : HW a0 Z) : Jvm.Cond.before (Jvm.Cond.methodLink "java/lang/String" (335 : Nat) ({ cls := "java/lang/String", name := "coder", desc := "()B" } : Jvm.MethodName)) a0 Z = true := hw _ (List.mem_of_getElem? (i := 91) rfl)
theorem w92 (hw : HW a0 Z) : Jvm.Cond.before (Jvm.Cond.declares ({ cls := "java/lang/String", name := "coder", desc := "()B" } : Jvm.MethodName)) a0 Z = true := hw _ (List.mem_of_getElem? (i := 92) rfl)
theorem w93 (hw : HW a0 Z) : Jvm.Cond.before (Jvm.Cond.instanceMethod ({ cls := "java/lang/String", name := "coder", desc := "()B" } : Jvm.MethodName)) a0 Z = true := hw _ (List.mem_of_getElem? (i := 93) rfl)
theorem w94 (hw : HW a0 Z) : Jvm.Cond.before (Jvm.Cond.selects "java/lang/String" ({ cls := "java/lang/String", name := "coder", desc := "()B" } : Jvm.MethodName) ({ cls := "java/lang/String", name := "coder", desc := "()B" } : Jvm.MethodName)) a0 Z = true := hw _ (List.mem_of_getElem? (i := 94) rfl)
theorem w95 (hw : HW a0 Z) : Jvm.Cond.before (Jvm.Cond.code ({ cls := "java/lang/String", name := "coder", desc := "()B" } : Jvm.MethodName) jdk_42_method_152_code (1 : Nat) (Option.some Jvm.ClassFile.FieldType.byte)) a0 Z = true := hw _ (List.mem_of_getElem? (i := 95) rfl)
theorem w96 (hw : HW a0 Z) : Jvm.Cond.before (Jvm.Cond.fieldLink "java/lang/AbstractStringBuilder" (79 : Nat) "java/lang/AbstractStringBuilder" "count" "I") a0 Z = true := hw _ (List.mem_of_getElem? (i := 96) rfl)
theorem w97 (hw : HW a0 Z) : Jvm.Cond.before (Jvm.Cond.lays "java/lang/StringBuilder" "java/lang/AbstractStringBuilder" "count" "I") a0 Z = true := hw _ (List.mem_of_getElem? (i := 97) rfl)
theorem w98 (hw : HW a0 Z) : Jvm.Cond.before (Jvm.Cond.methodLink "java/lang/AbstractStringBuilder" (100 : Nat) ({ cls := "java/lang/AbstractStringBuilder", name := "ensureCapacityInternal", desc := "(I)V" } : Jvm.MethodName)) a0 Z = true := hw _ (List.mem_of_getElem? (i := 98) rfl)
theorem w99 (hw : HW a0 Z) : Jvm.Cond.before (Jvm.Cond.instanceMethod ({ cls := "java/lang/AbstractStringBuilder", name := "ensureCapacityInternal", desc := "(I)V" } : Jvm.MethodName)) a0 Z = true := hw _ (List.mem_of_getElem? (i := 99) rfl)
theorem w100 (hw : HW a0 Z) : Jvm.Cond.before (Jvm.Cond.privateMethod ({ cls := "java/lang/AbstractStringBuilder", name := "ensureCapacityInternal", desc := "(I)V" } : Jvm.MethodName)) a0 Z = true := hw _ (List.mem_of_getElem? (i := 100) rfl)
theorem w101 (hw : HW a0 Z) : Jvm.Cond.before (Jvm.Cond.selects "java/lang/StringBuilder" ({ cls := "java/lang/AbstractStringBuilder", name := "ensureCapacityInternal", desc := "(I)V" } : Jvm.MethodName) ({ cls := "java/lang/AbstractStringBuilder", name := "ensureCapacityInternal", desc := "(I)V" } : Jvm.MethodName)) a0 Z = true := hw _ (List.mem_of_getElem? (i := 101) rfl)
theorem w102 (hw : HW a0 Z) : Jvm.Cond.before (Jvm.Cond.code ({ cls := "java/lang/AbstractStringBuilder", name := "ensureCapacityInternal", desc := "(I)V" } : Jvm.MethodName) jdk_68_method_9_code (3 : Nat) (Option.none : Option Jvm.ClassFile.FieldType)) a0 Z = true := hw _ (List.mem_of_getElem? (i := 102) rfl)
theorem w103 (hw : HW a0 Z) : Jvm.Cond.before (Jvm.Cond.methodLink "java/lang/AbstractStringBuilder" (208 : Nat) ({ cls := "java/lang/AbstractStringBuilder", name := "putStringAt", desc := "(ILjava/lang/String;)V" } : Jvm.MethodName)) a0 Z = true := hw _ (List.mem_of_getElem? (i := 103) rfl)
theorem w104 (hw : HW a0 Z) : Jvm.Cond.before (Jvm.Cond.instanceMethod ({ cls := "java/lang/AbstractStringBuilder", name := "putStringAt", desc := "(ILjava/lang/String;)V" } : Jvm.MethodName)) a0 Z = true := hw _ (List.mem_of_getElem? (i := 104) rfl)
theorem w105 (hw : HW a0 Z) : Jvm.Cond.before (Jvm.Cond.privateMethod ({ cls := "java/lang/AbstractStringBuilder", name := "putStringAt", desc := "(ILjava/lang/String;)V" } : Jvm.MethodName)) a0 Z = true := hw _ (List.mem_of_getElem? (i := 105) rfl)
theorem w106 (hw : HW a0 Z) : Jvm.Cond.before (Jvm.Cond.selects "java/lang/StringBuilder" ({ cls := "java/lang/AbstractStringBuilder", name := "putStringAt", desc := "(ILjava/lang/String;)V" } : Jvm.MethodName) ({ cls := "java/lang/AbstractStringBuilder", name := "putStringAt", desc := "(ILjava/lang/String;)V" } : Jvm.MethodName)) a0 Z = true := hw _ (List.mem_of_getElem? (i := 106) rfl)
theorem w107 (hw : HW a0 Z) : Jvm.Cond.before (Jvm.Cond.code ({ cls := "java/lang/AbstractStringBuilder", name := "putStringAt", desc := "(ILjava/lang/String;)V" } : Jvm.MethodName) jdk_68_method_73_code (3 : Nat) (Option.none : Option Jvm.ClassFile.FieldType)) a0 Z = true := hw _ (List.mem_of_getElem? (i := 107) rfl)
theorem w108 (hw : HW a0 Z) : Jvm.Cond.before (Jvm.Cond.methodLink "java/lang/AbstractStringBuilder" (397 : Nat) ({ cls := "java/lang/AbstractStringBuilder", name := "inflateIfNeededFor", desc := "(Ljava/lang/String;)V" } : Jvm.MethodName)) a0 Z = true := hw _ (List.mem_of_getElem? (i := 108) rfl)
theorem w109 (hw : HW a0 Z) : Jvm.Cond.before (Jvm.Cond.instanceMethod ({ cls := "java/lang/AbstractStringBuilder", name := "inflateIfNeededFor", desc := "(Ljava/lang/String;)V" } : Jvm.MethodName)) a0 Z = true := hw _ (List.mem_of_getElem? (i := 109) rfl)
theorem w110 (hw : HW a0 Z) : Jvm.Cond.before (Jvm.Cond.privateMethod ({ cls := "java/lang/AbstractStringBuilder", name := "inflateIfNeededFor", desc := "(Ljava/lang/String;)V" } : Jvm.MethodName)) a0 Z = true := hw _ (List.mem_of_getElem? (i := 110) rfl)
theorem w111 (hw : HW a0 Z) : Jvm.Cond.before (Jvm.Cond.selects "java/lang/StringBuilder" ({ cls := "java/lang/AbstractStringBuilder", name := "inflateIfNeededFor", desc := "(Ljava/lang/String;)V" } : Jvm.MethodName) ({ cls := "java/lang/AbstractStringBuilder", name := "inflateIfNeededFor", desc := "(Ljava/lang/String;)V" } : Jvm.MethodName)) a0 Z = true := hw _ (List.mem_of_getElem? (i := 111) rfl)
theorem w112 (hw : HW a0 Z) : Jvm.Cond.before (Jvm.Cond.code ({ cls := "java/lang/AbstractStringBuilder", name := "inflateIfNeededFor", desc := "(Ljava/lang/String;)V" } : Jvm.MethodName) jdk_68_method_71_code (2 : Nat) (Option.none : Option Jvm.ClassFile.FieldType)) a0 Z = true := hw _ (List.mem_of_getElem? (i := 112) rfl)
theorem w113 (hw : HW a0 Z) : Jvm.Cond.before (Jvm.Cond.methodLink "java/lang/AbstractStringBuilder" (40 : Nat) ({ cls := "java/lang/String", name := "coder", desc := "()B" } : Jvm.MethodName)) a0 Z = true := hw _ (List.mem_of_getElem? (i := 113) rfl)
theorem w114 (hw : HW a0 Z) : Jvm.Cond.before (Jvm.Cond.methodLink "java/lang/AbstractStringBuilder" (399 : Nat) ({ cls := "java/lang/String", name := "getBytes", desc := "([BIB)V" } : Jvm.MethodName)) a0 Z = true := hw _ (List.mem_of_getElem? (i := 114) rfl)
theorem w115 (hw : HW a0 Z) : Jvm.Cond.before (Jvm.Cond.declares ({ cls := "java/lang/String", name := "getBytes", desc := "([BIB)V" } : Jvm.MethodName)) a0 Z = true := hw _ (List.mem_of_getElem? (i := 115) rfl)
theorem w116 (hw : HW a0 Z) : Jvm.Cond.before (Jvm.Cond.instanceMethod ({ cls := "java/lang/String", name := "getBytes", desc := "([BIB)V" } : Jvm.MethodName)) a0 Z = true := hw _ (List.mem_of_getElem? (i := 116) rfl)
theorem w117 (hw : HW a0 Z) : Jvm.Cond.before (Jvm.Cond.selects "java/lang/String" ({ cls := "java/lang/String", name := "getBytes", desc := "([BIB)V" } : Jvm.MethodName) ({ cls := "java/lang/String", name := "getBytes", desc := "([BIB)V" } : Jvm.MethodName)) a0 Z = true := hw _ (List.mem_of_getElem? (i := 117) rfl)
theorem w118 (hw : HW a0 Z) : Jvm.Cond.before (Jvm.Cond.code ({ cls := "java/lang/String", name := "getBytes", desc := "([BIB)V" } : Jvm.MethodName) jdk_42_method_147_code (4 : Nat) (Option.none : Option Jvm.ClassFile.FieldType)) a0 Z = true := hw _ (List.mem_of_getElem? (i := 118) rfl)
theorem w119 (hw : HW a0 Z) : Jvm.Cond.before (Jvm.Cond.methodLink "java/lang/String" (212 : Nat) ({ cls := "java/lang/System", name := "arraycopy", desc := "(Ljava/lang/Object;ILjava/lang/Object;II)V" } : Jvm.MethodName)) a0 Z = true := hw _ (List.mem_of_getElem? (i := 119) rfl)
theorem w120 (hw : HW a0 Z) : Jvm.Cond.before (Jvm.Cond.static ({ cls := "java/lang/System", name := "arraycopy", desc := "(Ljava/lang/Object;ILjava/lang/Object;II)V" } : Jvm.MethodName)) a0 Z = true := hw _ (List.mem_of_getElem? (i := 120) rfl)
theorem w121 (hw : HW a0 Z) : Jvm.Cond.before (Jvm.Cond.initialized "java/lang/System") a0 Z = true := hw _ (List.mem_of_getElem? (i := 121) rfl)
theorem w122 (hw : HW a0 Z) : Jvm.Cond.before (Jvm.Cond.native ({ cls := "java/lang/System", name := "arraycopy", desc := "(Ljava/lang/Object;ILjava/lang/Object;II)V" } : Jvm.MethodName)) a0 Z = true := hw _ (List.mem_of_getElem? (i := 122) rfl)
theorem w123 (hw : HW a0 Z) : Jvm.Cond.before (Jvm.Cond.stringLink "com/example/changeline/changeline/change/TableName" (44 : Nat) ".") a0 Z = true := hw _ (List.mem_of_getElem? (i := 123) rfl)
theorem w124 (hw : HW a0 Z) : Jvm.Cond.before (Jvm.Cond.methodLink "com/example/changeline/changeline/change/TableName" (46 : Nat) ({ cls := "java/lang/StringBuilder", name := "toString", desc := "()Ljava/lang/String;" } : Jvm.MethodName)) a0 Z = true := hw _ (List.mem_of_getElem? (i := 124) rfl)
theorem w125 (hw : HW a0 Z) : Jvm.Cond.before (Jvm.Cond.declares ({ cls := "java/lang/StringBuilder", name := "toString", desc := "()Ljava/lang/String;" } : Jvm.MethodName)) a0 Z = true := hw _ (List.mem_of_getElem? (i := 125) rfl)
theorem w126 (hw : HW a0 Z) : Jvm.Cond.before (Jvm.Cond.instanceMethod ({ cls := "java/lang/StringBuilder", name := "toString", desc := "()Ljava/lang/String;" } : Jvm.MethodName)) a0 Z = true := hw _ (List.mem_of_getElem? (i := 126) rfl)
theorem w127 (hw : HW a0 Z) : Jvm.Cond.before (Jvm.Cond.selects "java/lang/StringBuilder" ({ cls := "java/lang/StringBuilder", name := "toString", desc := "()Ljava/lang/String;" } : Jvm.MethodName) ({ cls := "java/lang/StringBuilder", name := "toString", desc := "()Ljava/lang/String;" } : Jvm.MethodName)) a0 Z = true := hw _ (List.mem_of_getElem? (i := 127) rfl)
theorem w128 (hw : HW a0 Z) : Jvm.Cond.before (Jvm.Cond.code ({ cls := "java/lang/StringBuilder", name := "toString", desc := "()Ljava/lang/String;" } : Jvm.MethodName) jdk_67_method_42_code (1 : Nat) (Option.some (Jvm.ClassFile.FieldType.object "java/lang/String"))) a0 Z = true := hw _ (List.mem_of_getElem? (i := 128) rfl)
theorem w129 (hw : HW a0 Z) : Jvm.Cond.before (Jvm.Cond.classLink "java/lang/StringBuilder" (18 : Nat) "java/lang/String") a0 Z = true := hw _ (List.mem_of_getElem? (i := 129) rfl)
theorem w130 (hw : HW a0 Z) : Jvm.Cond.before (Jvm.Cond.methodLink "java/lang/StringBuilder" (137 : Nat) ({ cls := "java/lang/String", name := "<init>", desc := "(Ljava/lang/StringBuilder;)V" } : Jvm.MethodName)) a0 Z = true := hw _ (List.mem_of_getElem? (i := 130) rfl)
theorem w131 (hw : HW a0 Z) : Jvm.Cond.before (Jvm.Cond.instanceMethod ({ cls := "java/lang/String", name := "<init>", desc := "(Ljava/lang/StringBuilder;)V" } : Jvm.MethodName)) a0 Z = true := hw _ (List.mem_of_getElem? (i := 131) rfl)
theorem w132 (hw : HW a0 Z) : Jvm.Cond.before (Jvm.Cond.code ({ cls := "java/lang/String", name := "<init>", desc := "(Ljava/lang/StringBuilder;)V" } : Jvm.MethodName) jdk_42_method_53_code (2 : Nat) (Option.none : Option Jvm.ClassFile.FieldType)) a0 Z = true := hw _ (List.mem_of_getElem? (i := 132) rfl)
theorem w133 (hw : HW a0 Z) : Jvm.Cond.before (Jvm.Cond.methodLink "java/lang/String" (489 : Nat) ({ cls := "java/lang/String", name := "<init>", desc := "(Ljava/lang/AbstractStringBuilder;Ljava/lang/Void;)V" } : Jvm.MethodName)) a0 Z = true := hw _ (List.mem_of_getElem? (i := 133) rfl)
theorem w134 (hw : HW a0 Z) : Jvm.Cond.before (Jvm.Cond.instanceMethod ({ cls := "java/lang/String", name := "<init>", desc := "(Ljava/lang/AbstractStringBuilder;Ljava/lang/Void;)V" } : Jvm.MethodName)) a0 Z = true := hw _ (List.mem_of_getElem? (i := 134) rfl)
theorem w135 (hw : HW a0 Z) : Jvm.Cond.before (Jvm.Cond.code ({ cls := "java/lang/String", name := "<init>", desc := "(Ljava/lang/AbstractStringBuilder;Ljava/lang/Void;)V" } : Jvm.MethodName) jdk_42_method_150_code (5 : Nat) (Option.none : Option Jvm.ClassFile.FieldType)) a0 Z = true := hw _ (List.mem_of_getElem? (i := 135) rfl)
theorem w136 (hw : HW a0 Z) : Jvm.Cond.before (Jvm.Cond.methodLink "java/lang/String" (552 : Nat) ({ cls := "java/lang/AbstractStringBuilder", name := "getValue", desc := "()[B" } : Jvm.MethodName)) a0 Z = true := hw _ (List.mem_of_getElem? (i := 136) rfl)
theorem w137 (hw : HW a0 Z) : Jvm.Cond.before (Jvm.Cond.declares ({ cls := "java/lang/AbstractStringBuilder", name := "getValue", desc := "()[B" } : Jvm.MethodName)) a0 Z = true := hw _ (List.mem_of_getElem? (i := 137) rfl)
theorem w138 (hw : HW a0 Z) : Jvm.Cond.before (Jvm.Cond.instanceMethod ({ cls := "java/lang/AbstractStringBuilder", name := "getValue", desc := "()[B" } : Jvm.MethodName)) a0 Z = true := hw _ (List.mem_of_getElem? (i := 138) rfl)
theorem w139 (hw : HW a0 Z) : Jvm.Cond.before (Jvm.Cond.selects "java/lang/StringBuilder" ({ cls := "java/lang/AbstractStringBuilder", name := "getValue", desc := "()[B" } : Jvm.MethodName) ({ cls := "java/lang/AbstractStringBuilder", name := "getValue", desc := "()[B" } : Jvm.MethodName)) a0 Z = true := hw _ (List.mem_of_getElem? (i := 139) rfl)
theorem w140 (hw : HW a0 Z) : Jvm.Cond.before (Jvm.Cond.code ({ cls := "java/lang/AbstractStringBuilder", name := "getValue", desc := "()[B" } : Jvm.MethodName) jdk_68_method_64_code (1 : Nat) (Option.some (Jvm.ClassFile.FieldType.array Jvm.ClassFile.FieldType.byte))) a0 Z = true := hw _ (List.mem_of_getElem? (i := 140) rfl)
theorem w141 (hw : HW a0 Z) : Jvm.Cond.before (Jvm.Cond.methodLink "java/lang/String" (549 : Nat) ({ cls := "java/lang/AbstractStringBuilder", name := "length", desc := "()I" } : Jvm.MethodName)) a0 Z = true := hw _ (List.mem_of_getElem? (i := 141) rfl)
theorem w142 (hw : HW a0 Z) : Jvm.Cond.before (Jvm.Cond.declares ({ cls := "java/lang/AbstractStringBuilder", name := "length", desc := "()I" } : Jvm.MethodName)) a0 Z = true := hw _ (List.mem_of_getElem? (i := 142) rfl)
theorem w143 (hw : HW a0 Z) : Jvm.Cond.before (Jvm.Cond.instanceMethod ({ cls := "java/lang/AbstractStringBuilder", name := "length", desc := "()I" } : Jvm.MethodName)) a0 Z = true := hw _ (List.mem_of_getElem? (i := 143) rfl)
theorem w144 (hw : HW a0 Z) : Jvm.Cond.before (Jvm.Cond.selects "java/lang/StringBuilder" ({ cls := "java/lang/AbstractStringBuilder", name := "length", desc := "()I" } : Jvm.MethodName) ({ cls := "java/lang/StringBuilder", name := "length", desc := "()I" } : Jvm.MethodName)) a0 Z = true := hw _ (List.mem_of_getElem? (i := 144) rfl)
theorem w145 (hw : HW a0 Z) : Jvm.Cond.before (Jvm.Cond.instanceMethod ({ cls := "java/lang/StringBuilder", name := "length", desc := "()I" } : Jvm.MethodName)) a0 Z = true := hw _ (List.mem_of_getElem? (i := 145) rfl)
theorem w146 (hw : HW a0 Z) : Jvm.Cond.before (Jvm.Cond.code ({ cls := "java/lang/StringBuilder", name := "length", desc := "()I" } : Jvm.MethodName) jdk_67_method_93_code (1 : Nat) (Option.some Jvm.ClassFile.FieldType.int)) a0 Z = true := hw _ (List.mem_of_getElem? (i := 146) rfl)
theorem w147 (hw : HW a0 Z) : Jvm.Cond.before (Jvm.Cond.methodLink "java/lang/StringBuilder" (343 : Nat) ({ cls := "java/lang/AbstractStringBuilder", name := "length", desc := "()I" } : Jvm.MethodName)) a0 Z = true := hw _ (List.mem_of_getElem? (i := 147) rfl)
theorem w148 (hw : HW a0 Z) : Jvm.Cond.before (Jvm.Cond.code ({ cls := "java/lang/AbstractStringBuilder", name := "length", desc := "()I" } : Jvm.MethodName) jdk_68_method_6_code (1 : Nat) (Option.some Jvm.ClassFile.FieldType.int)) a0 Z = true := hw _ (List.mem_of_getElem? (i := 148) rfl)
theorem w149 (hw : HW a0 Z) : Jvm.Cond.before (Jvm.Cond.methodLink "java/lang/String" (1047 : Nat) ({ cls := "java/lang/AbstractStringBuilder", name := "isLatin1", desc := "()Z" } : Jvm.MethodName)) a0 Z = true := hw _ (List.mem_of_getElem? (i := 149) rfl)
theorem w150 (hw : HW a0 Z) : Jvm.Cond.before (Jvm.Cond.declares ({ cls := "java/lang/AbstractStringBuilder", name := "isLatin1", desc := "()Z" } : Jvm.MethodName)) a0 Z = true := hw _ (List.mem_of_getElem? (i := 150) rfl)
theorem w151 (hw : HW a0 Z) : Jvm.Cond.before (Jvm.Cond.instanceMethod ({ cls := "java/lang/AbstractStringBuilder", name := "isLatin1", desc := "()Z" } : Jvm.MethodName)) a0 Z = true := hw _ (List.mem_of_getElem? (i := 151) rfl)
theorem w152 (hw : HW a0 Z) : Jvm.Cond.before (Jvm.Cond.selects "java/lang/StringBuilder" ({ cls := "java/lang/AbstractStringBuilder", name := "isLatin1", desc := "()Z" } : Jvm.MethodName) ({ cls := "java/lang/AbstractStringBuilder", name := "isLatin1", desc := "()Z" } : Jvm.MethodName)) a0 Z = true := hw _ (List.mem_of_getElem? (i := 152) rfl)
theorem w153 (hw : HW a0 Z) : Jvm.Cond.before (Jvm.Cond.code ({ cls := "java/lang/AbstractStringBuilder", name := "isLatin1", desc := "()Z" } : Jvm.MethodName) jdk_68_method_68_code (1 : Nat) (Option.some Jvm.ClassFile.FieldType.boolean)) a0 Z = true := hw _ (List.mem_of_getElem? (i := 153) rfl)
theorem w154 (hw : HW a0 Z) : Jvm.Cond.before (Jvm.Cond.methodLink "java/lang/String" (54 : Nat) ({ cls := "java/util/Arrays", name := "copyOfRange", desc := "([BII)[B" } : Jvm.MethodName)) a0 Z = true := hw _ (List.mem_of_getElem? (i := 154) rfl)
theorem w155 (hw : HW a0 Z) : Jvm.Cond.before (Jvm.Cond.static ({ cls := "java/util/Arrays", name := "copyOfRange", desc := "([BII)[B" } : Jvm.MethodName)) a0 Z = true := hw _ (List.mem_of_getElem? (i := 155) rfl)
theorem w156 (hw : HW a0 Z) : Jvm.Cond.before (Jvm.Cond.initialized "java/util/Arrays") a0 Z = true := hw _ (List.mem_of_getElem? (i := 156) rfl)
theorem w157 (hw : HW a0 Z) : Jvm.Cond.before (Jvm.Cond.code ({ cls := "java/util/Arrays", name := "copyOfRange", desc := "([BII)[B" } : Jvm.MethodName) jdk_65_method_132_code (3 : Nat) (Option.some (Jvm.ClassFile.FieldType.array Jvm.ClassFile.FieldType.byte))) a0 Z = true := hw _ (List.mem_of_getElem? (i := 157) rfl)
theorem w158 (hw : HW a0 Z) : Jvm.Cond.before (Jvm.Cond.methodLink "java/util/Arrays" (339 : Nat) ({ cls := "java/util/Arrays", name := "copyOfRangeByte", desc := "([BII)[B" } : Jvm.MethodName)) a0 Z = true := hw _ (List.mem_of_getElem? (i := 158) rfl)
theorem w159 (hw : HW a0 Z) : Jvm.Cond.before (Jvm.Cond.static ({ cls := "java/util/Arrays", name := "copyOfRangeByte", desc := "([BII)[B" } : Jvm.MethodName)) a0 Z = true := hw _ (List.mem_of_getElem? (i := 159) rfl)
theorem w160 (hw : HW a0 Z) : Jvm.Cond.before (Jvm.Cond.code ({ cls := "java/util/Arrays", name := "copyOfRangeByte", desc := "([BII)[B" } : Jvm.MethodName) jdk_65_method_133_code (5 : Nat) (Option.some (Jvm.ClassFile.FieldType.array Jvm.ClassFile.FieldType.byte))) a0 Z = true := hw _ (List.mem_of_getElem? (i := 160) rfl)
theorem w161 (hw : HW a0 Z) : Jvm.Cond.before (Jvm.Cond.methodLink "java/util/Arrays" (343 : Nat) ({ cls := "java/util/Arrays", name := "checkLength", desc := "(II)V" } : Jvm.MethodName)) a0 Z = true := hw _ (List.mem_of_getElem? (i := 161) rfl)
theorem w162 (hw : HW a0 Z) : Jvm.Cond.before (Jvm.Cond.static ({ cls := "java/util/Arrays", name := "checkLength", desc := "(II)V" } : Jvm.MethodName)) a0 Z = true := hw _ (List.mem_of_getElem? (i := 162) rfl)
theorem w163 (hw : HW a0 Z) : Jvm.Cond.before (Jvm.Cond.code ({ cls := "java/util/Arrays", name := "checkLength", desc := "(II)V" } : Jvm.MethodName) jdk_65_method_131_code (2 : Nat) (Option.none : Option Jvm.ClassFile.FieldType)) a0 Z = true := hw _ (List.mem_of_getElem? (i := 163) rfl)
theorem w164 (hw : HW a0 Z) : Jvm.Cond.before (Jvm.Cond.methodLink "java/util/Arrays" (304 : Nat) ({ cls := "java/lang/Math", name := "min", desc := "(II)I" } : Jvm.MethodName)) a0 Z = true := hw _ (List.mem_of_getElem? (i := 164) rfl)
theorem w165 (hw : HW a0 Z) : Jvm.Cond.before (Jvm.Cond.static ({ cls := "java/lang/Math", name := "min", desc := "(II)I" } : Jvm.MethodName)) a0 Z = true := hw _ (List.mem_of_getElem? (i := 165) rfl)
theorem w166 (hw : HW a0 Z) : Jvm.Cond.before (Jvm.Cond.initialized "java/lang/Math") a0 Z = true := hw _ (List.mem_of_getElem? (i := 166) rfl)
theorem w167 (hw : HW a0 Z) : Jvm.Cond.before (Jvm.Cond.code ({ cls := "java/lang/Math", name := "min", desc := "(II)I" } : Jvm.MethodName) jdk_29_method_69_code (2 : Nat) (Option.some Jvm.ClassFile.FieldType.int)) a0 Z = true := hw _ (List.mem_of_getElem? (i := 167) rfl)
theorem w168 (hw : HW a0 Z) : Jvm.Cond.before (Jvm.Cond.methodLink "java/util/Arrays" (150 : Nat) ({ cls := "java/lang/System", name := "arraycopy", desc := "(Ljava/lang/Object;ILjava/lang/Object;II)V" } : Jvm.MethodName)) a0 Z = true := hw _ (List.mem_of_getElem? (i := 168) rfl)
theorem w169 (hw : HW a0 Z) : Jvm.Cond.before (Jvm.Cond.fieldLink "com/example/changeline/changeline/change/TableName" (50 : Nat) "com/example/changeline/changeline/change/TableName" "text" "Ljava/lang/String;") a0 Z = true := hw _ (List.mem_of_getElem? (i := 169) rfl)
theorem w170 (hw : HW a0 Z) : Jvm.Cond.before (Jvm.Cond.laysFinal "com/example/changeline/changeline/change/TableName" "com/example/changeline/changeline/change/TableName" "text" "Ljava/lang/String;") a0 Z = true := hw _ (List.mem_of_getElem? (i := 170) rfl)
theorem w171 (hw : HW a0 Z) : Jvm.Cond.before (Jvm.Cond.classLink "com/example/changeline/changeline/change/TableName" (2 : Nat) "java/lang/Object") a0 Z = true := hw _ (List.mem_of_getElem? (i := 171) rfl)
theorem w172 (hw : HW a0 Z) : Jvm.Cond.before (Jvm.Cond.arrayOver (Jvm.ClassFile.FieldType.object "java/lang/Object")) a0 Z = true := hw _ (List.mem_of_getElem? (i := 172) rfl)
theorem w173 (hw : HW a0 Z) : Jvm.Cond.before (Jvm.Cond.castable "java/lang/String" "java/lang/Object") a0 Z = true := hw _ (List.mem_of_getElem? (i := 173) rfl)
theorem w174 (hw : HW a0 Z) : Jvm.Cond.before (Jvm.Cond.methodLink "com/example/changeline/changeline/change/TableName" (53 : Nat) ({ cls := "java/util/Objects", name := "hash", desc := "([Ljava/lang/Object;)I" } : Jvm.MethodName)) a0 Z = true := hw _ (List.mem_of_getElem? (i := 174) rfl)
theorem w175 (hw : HW a0 Z) : Jvm.Cond.before (Jvm.Cond.static ({ cls := "java/util/Objects", name := "hash", desc := "([Ljava/lang/Object;)I" } : Jvm.MethodName)) a0 Z = true := hw _ (List.mem_of_getElem? (i := 175) rfl)
theorem w176 (hw : HW a0 Z) : Jvm.Cond.before (Jvm.Cond.code ({ cls := "java/util/Objects", name := "hash", desc := "([Ljava/lang/Object;)I" } : Jvm.MethodName) jdk_31_method_5_code (1 : Nat) (Option.some Jvm.ClassFile.FieldType.int)) a0 Z = true := hw _ (List.mem_of_getElem? (i := 176) rfl)
theorem w177 (hw : HW a0 Z) : Jvm.Cond.before (Jvm.Cond.methodLink "java/util/Objects" (28 : Nat) ({ cls := "java/util/Arrays", name := "hashCode", desc := "([Ljava/lang/Object;)I" } : Jvm.MethodName)) a0 Z = true := hw _ (List.mem_of_getElem? (i := 177) rfl)
theorem w178 (hw : HW a0 Z) : Jvm.Cond.before (Jvm.Cond.static ({ cls := "java/util/Arrays", name := "hashCode", desc := "([Ljava/lang/Object;)I" } : Jvm.MethodName)) a0 Z = true := hw _ (List.mem_of_getElem? (i := 178) rfl)
theorem w179 (hw : HW a0 Z) : Jvm.Cond.before (Jvm.Cond.code ({ cls := "java/util/Arrays", name := "hashCode", desc := "([Ljava/lang/Object;)I" } : Jvm.MethodName) jdk_65_method_157_code (6 : Nat) (Option.some Jvm.ClassFile.FieldType.int)) a0 Z = true := hw _ (List.mem_of_getElem? (i := 179) rfl)
theorem w180 (hw : HW a0 Z) : Jvm.Cond.before (Jvm.Cond.methodLink "java/util/Arrays" (383 : Nat) ({ cls := "java/lang/Object", name := "hashCode", desc := "()I" } : Jvm.MethodName)) a0 Z = true := hw _ (List.mem_of_getElem? (i := 180) rfl)
theorem w181 (hw : HW a0 Z) : Jvm.Cond.before (Jvm.Cond.declares ({ cls := "java/lang/Object", name := "hashCode", desc := "()I" } : Jvm.MethodName)) a0 Z = true := hw _ (List.mem_of_getElem? (i := 181) rfl)
theorem w183 (hw : HW a0 Z) : Jvm.Cond.before (Jvm.Cond.selects "java/lang/String" ({ cls := "java/lang/Object", name := "hashCode", desc := "()I" } : Jvm.MethodName) ({ cls := "java/lang/String", name := "hashCode", desc := "()I" } : Jvm.MethodName)) a0 Z = true := hw _ (List.mem_of_getElem? (i := 183) rfl)
theorem w184 (hw : HW a0 Z) : Jvm.Cond.before (Jvm.Cond.instanceMethod ({ cls := "java/lang/String", name := "hashCode", desc := "()I" } : Jvm.MethodName)) a0 Z = true := hw _ (List.mem_of_getElem? (i := 184) rfl)
theorem w185 (hw : HW a0 Z) : Jvm.Cond.before (Jvm.Cond.code ({ cls := "java/lang/String", name := "hashCode", desc := "()I" } : Jvm.MethodName) jdk_42_method_78_code (2 : Nat) (Option.some Jvm.ClassFile.FieldType.int)) a0 Z = true := hw _ (List.mem_of_getElem? (i := 185) rfl)
theorem w186 (hw : HW a0 Z) : Jvm.Cond.before (Jvm.Cond.fieldLink "java/lang/String" (19 : Nat) "java/lang/String" "hash" "I") a0 Z = true := hw _ (List.mem_of_getElem? (i := 186) rfl)
theorem w187 (hw : HW a0 Z) : Jvm.Cond.before (Jvm.Cond.lays "java/lang/String" "java/lang/String" "hash" "I") a0 Z = true := hw _ (List.mem_of_getElem? (i := 187) rfl)
theorem w188 (hw : HW a0 Z) : Jvm.Cond.before (Jvm.Cond.fieldLink "java/lang/String" (23 : Nat) "java/lang/String" "hashIsZero" "Z") a0 Z = true := hw _ (List.mem_of_getElem? (i := 188) rfl)
theorem w189 (hw : HW a0 Z) : Jvm.Cond.before (Jvm.Cond.lays "java/lang/String" "java/lang/String" "hashIsZero" "Z") a0 Z = true := hw _ (List.mem_of_getElem? (i := 189) rfl)
theorem w190 (hw : HW a0 Z) : Jvm.Cond.before (Jvm.Cond.methodLink "java/lang/String" (492 : Nat) ({ cls := "java/lang/String", name := "isLatin1", desc := "()Z" } : Jvm.MethodName)) a0 Z = true := hw _ (List.mem_of_getElem? (i := 190) rfl)
theorem w191 (hw : HW a0 Z) : Jvm.Cond.before (Jvm.Cond.declares ({ cls := "java/lang/String", name := "isLatin1", desc := "()Z" } : Jvm.MethodName)) a0 Z = true := hw _ (List.mem_of_getElem? (i := 191) rfl)
theorem w192 (hw : HW a0 Z) : Jvm.Cond.before (Jvm.Cond.instanceMethod ({ cls := "java/lang/String", name := "isLatin1", desc := "()Z" } : Jvm.MethodName)) a0 Z = true := hw _ (List.mem_of_getElem? (i := 192) rfl)
theorem w193 (hw : HW a0 Z) : Jvm.Cond.before (Jvm.Cond.selects "java/lang/String" ({ cls := "java/lang/String", name := "isLatin1", desc := "()Z" } : Jvm.MethodName) ({ cls := "java/lang/String", name := "isLatin1", desc := "()Z" } : Jvm.MethodName)) a0 Z = true := hw _ (List.mem_of_getElem? (i := 193) rfl)
theorem w194 (hw : HW a0 Z) : Jvm.Cond.before (Jvm.Cond.code ({ cls := "java/lang/String", name := "isLatin1", desc := "()Z" } : Jvm.MethodName) jdk_42_method_154_code (1 : Nat) (Option.some Jvm.ClassFile.FieldType.boolean)) a0 Z = true := hw _ (List.mem_of_getElem? (i := 194) rfl)
theorem w195 (hw : HW a0 Z) : Jvm.Cond.before (Jvm.Cond.methodLink "java/lang/String" (628 : Nat) ({ cls := "java/lang/StringLatin1", name := "hashCode", desc := "([B)I" } : Jvm.MethodName)) a0 Z = true := hw _ (List.mem_of_getElem? (i := 195) rfl)
theorem w196 (hw : HW a0 Z) : Jvm.Cond.before (Jvm.Cond.static ({ cls := "java/lang/StringLatin1", name := "hashCode", desc := "([B)I" } : Jvm.MethodName)) a0 Z = true := hw _ (List.mem_of_getElem? (i := 196) rfl)
theorem w197 (hw : HW a0 Z) : Jvm.Cond.before (Jvm.Cond.initialized "java/lang/StringLatin1") a0 Z = true := hw _ (List.mem_of_getElem? (i := 197) rfl)
theorem w198 (hw : HW a0 Z) : Jvm.Cond.before (Jvm.Cond.code ({ cls := "java/lang/StringLatin1", name := "hashCode", desc := "([B)I" } : Jvm.MethodName) jdk_43_method_21_code (1 : Nat) (Option.some Jvm.ClassFile.FieldType.int)) a0 Z = true := hw _ (List.mem_of_getElem? (i := 198) rfl)
theorem w199 (hw : HW a0 Z) : Jvm.Cond.before (Jvm.Cond.fieldLink "com/example/changeline/changeline/change/TableName" (57 : Nat) "com/example/changeline/changeline/change/TableName" "hash" "I") a0 Z = true := hw _ (List.mem_of_getElem? (i := 199) rfl)
theorem w200 (hw : HW a0 Z) : Jvm.Cond.before (Jvm.Cond.laysFinal "com/example/changeline/changeline/change/TableName" "com/example/changeline/changeline/change/TableName" "hash" "I") a0 Z = true := hw _ (List.mem_of_getElem? (i := 200) rfl)
theorem w201 (hw : HW a0 Z) : Jvm.Cond.before (Jvm.Cond.methodLink "com/example/changeline/changeline/change/TableNameEqualsPinLaw" (23 : Nat) ({ cls := "com/example/changeline/changeline/change/TableName", name := "equals", desc := "(Ljava/lang/Object;)Z" } : Jvm.MethodName)) a0 Z = true := hw _ (List.mem_of_getElem? (i := 201) rfl)
theorem w202 (hw : HW a0 Z) : Jvm.Cond.before (Jvm.Cond.declares ({ cls := "com/example/changeline/changeline/change/TableName", name := "equals", desc := "(Ljava/lang/Object;)Z" } : Jvm.MethodName)) a0 Z = true := hw _ (List.mem_of_getElem? (i := 202) rfl)
theorem w203 (hw : HW a0 Z) : Jvm.Cond.before (Jvm.Cond.instanceMethod ({ cls := "com/example/changeline/changeline/change/TableName", name := "equals", desc := "(Ljava/lang/Object;)Z" } : Jvm.MethodName)) a0 Z = true := hw _ (List.mem_of_getElem? (i := 203) rfl)
theorem w204 (hw : HW a0 Z) : Jvm.Cond.before (Jvm.Cond.selects "com/example/changeline/changeline/change/TableName" ({ cls := "com/example/changeline/changeline/change/TableName", name := "equals", desc := "(Ljava/lang/Object;)Z" } : Jvm.MethodName) ({ cls := "com/example/changeline/changeline/change/TableName", name := "equals", desc := "(Ljava/lang/Object;)Z" } : Jvm.MethodName)) a0 Z = true := hw _ (List.mem_of_getElem? (i := 204) rfl)
theorem w205 (hw : HW a0 Z) : Jvm.Cond.before (Jvm.Cond.code ({ cls := "com/example/changeline/changeline/change/TableName", name := "equals", desc := "(Ljava/lang/Object;)Z" } : Jvm.MethodName) prog_13_method_5_code (3 : Nat) (Option.some Jvm.ClassFile.FieldType.boolean)) a0 Z = true := hw _ (List.mem_of_getElem? (i := 205) rfl)
theorem w206 (hw : HW a0 Z) : Jvm.Cond.before (Jvm.Cond.classLink "com/example/changeline/changeline/change/TableName" (31 : Nat) "com/example/changeline/changeline/change/TableName") a0 Z = true := hw _ (List.mem_of_getElem? (i := 206) rfl)
theorem w208 (hw : HW a0 Z) : Jvm.Cond.before (Jvm.Cond.methodLink "com/example/changeline/changeline/change/TableName" (82 : Nat) ({ cls := "java/lang/String", name := "equals", desc := "(Ljava/lang/Object;)Z" } : Jvm.MethodName)) a0 Z = true := hw _ (List.mem_of_getElem? (i := 208) rfl)
theorem w209 (hw : HW a0 Z) : Jvm.Cond.before (Jvm.Cond.declares ({ cls := "java/lang/String", name := "equals", desc := "(Ljava/lang/Object;)Z" } : Jvm.MethodName)) a0 Z = true := hw _ (List.mem_of_getElem? (i := 209) rfl)
theorem w210 (hw : HW a0 Z) : Jvm.Cond.before (Jvm.Cond.instanceMethod ({ cls := "java/lang/String", name := "equals", desc := "(Ljava/lang/Object;)Z" } : Jvm.MethodName)) a0 Z = true := hw _ (List.mem_of_getElem? (i := 210) rfl)
theorem w211 (hw : HW a0 Z) : Jvm.Cond.before (Jvm.Cond.selects "java/lang/String" ({ cls := "java/lang/String", name := "equals", desc := "(Ljava/lang/Object;)Z" } : Jvm.MethodName) ({ cls := "java/lang/String", name := "equals", desc := "(Ljava/lang/Object;)Z" } : Jvm.MethodName)) a0 Z = true := hw _ (List.mem_of_getElem? (i := 211) rfl)
theorem w212 (hw : HW a0 Z) : Jvm.Cond.before (Jvm.Cond.code ({ cls := "java/lang/String", name := "equals", desc := "(Ljava/lang/Object;)Z" } : Jvm.MethodName) jdk_42_method_66_code (3 : Nat) (Option.some Jvm.ClassFile.FieldType.boolean)) a0 Z = true := hw _ (List.mem_of_getElem? (i := 212) rfl)
theorem w213 (hw : HW a0 Z) : Jvm.Cond.before (Jvm.Cond.classLink "java/lang/String" (10 : Nat) "java/lang/String") a0 Z = true := hw _ (List.mem_of_getElem? (i := 213) rfl)
theorem w214 (hw : HW a0 Z) : Jvm.Cond.before (Jvm.Cond.methodLink "java/lang/String" (541 : Nat) ({ cls := "java/lang/StringLatin1", name := "equals", desc := "([B[B)Z" } : Jvm.MethodName)) a0 Z = true := hw _ (List.mem_of_getElem? (i := 214) rfl)
theorem w215 (hw : HW a0 Z) : Jvm.Cond.before (Jvm.Cond.static ({ cls := "java/lang/StringLatin1", name := "equals", desc := "([B[B)Z" } : Jvm.MethodName)) a0 Z = true := hw _ (List.mem_of_getElem? (i := 215) rfl)
theorem w216 (hw : HW a0 Z) : Jvm.Cond.before (Jvm.Cond.code ({ cls := "java/lang/StringLatin1", name := "equals", desc := "([B[B)Z" } : Jvm.MethodName) jdk_43_method_13_code (3 : Nat) (Option.some Jvm.ClassFile.FieldType.boolean)) a0 Z = true := hw _ (List.mem_of_getElem? (i := 216) rfl)
theorem w217 (hw : HW a0 Z) : Jvm.Cond.before (Jvm.Cond.methodLink "java/lang/StringLatin1" (84 : Nat) ({ cls := "jdk/internal/util/ArraysSupport", name := "vectorizedHashCode", desc := "(Ljava/lang/Object;IIII)I" } : Jvm.MethodName)) a0 Z = true := hw _ (List.mem_of_getElem? (i := 217) rfl)
theorem w218 (hw : HW a0 Z) : Jvm.Cond.before (Jvm.Cond.static ({ cls := "jdk/internal/util/ArraysSupport", name := "vectorizedHashCode", desc := "(Ljava/lang/Object;IIII)I" } : Jvm.MethodName)) a0 Z = true := hw _ (List.mem_of_getElem? (i := 218) rfl)
theorem w219 (hw : HW a0 Z) : Jvm.Cond.before (Jvm.Cond.initialized "jdk/internal/util/ArraysSupport") a0 Z = true := hw _ (List.mem_of_getElem? (i := 219) rfl)
theorem w220 (hw : HW a0 Z) : Jvm.Cond.before (Jvm.Cond.code ({ cls := "jdk/internal/util/ArraysSupport", name := "vectorizedHashCode", desc := "(Ljava/lang/Object;IIII)I" } : Jvm.MethodName) jdk_48_method_4_code (5 : Nat) (Option.some Jvm.ClassFile.FieldType.int)) a0 Z = true := hw _ (List.mem_of_getElem? (i := 220) rfl)
theorem w221 (hw : HW a0 Z) : Jvm.Cond.before (Jvm.Cond.classLink "jdk/internal/util/ArraysSupport" (60 : Nat) "[B") a0 Z = true := hw _ (List.mem_of_getElem? (i := 221) rfl)
theorem w223 (hw : HW a0 Z) : Jvm.Cond.before (Jvm.Cond.methodLink "jdk/internal/util/ArraysSupport" (62 : Nat) ({ cls := "jdk/internal/util/ArraysSupport", name := "signedHashCode", desc := "(I[BII)I" } : Jvm.MethodName)) a0 Z = true := hw _ (List.mem_of_getElem? (i := 223) rfl)
theorem w224 (hw : HW a0 Z) : Jvm.Cond.before (Jvm.Cond.static ({ cls := "jdk/internal/util/ArraysSupport", name := "signedHashCode", desc := "(I[BII)I" } : Jvm.MethodName)) a0 Z = true := hw _ (List.mem_of_getElem? (i := 224) rfl)
theorem w225 (hw : HW a0 Z) : Jvm.Cond.before (Jvm.Cond.code ({ cls := "jdk/internal/util/ArraysSupport", name := "signedHashCode", desc := "(I[BII)I" } : Jvm.MethodName) jdk_48_method_5_code (6 : Nat) (Option.some Jvm.ClassFile.FieldType.int)) a0 Z = true := hw _ (List.mem_of_getElem? (i := 225) rfl)
theorem w226 (hw : HW a0 Z) : Jvm.Cond.before (Jvm.Cond.superclass "java/lang/String" "java/lang/Object") a0 Z = true := hw _ (List.mem_of_getElem? (i := 226) rfl)
theorem w227 (hw : HW a0 Z) : Jvm.Cond.before (Jvm.Cond.noSuperclass "java/lang/Object") a0 Z = true := hw _ (List.mem_of_getElem? (i := 227) rfl)
end Wds
theorem strAtoms {a0 : Array Value} {Z : State} (hw : HW a0 Z) : ∀ a ∈ Bundle.stringAtoms, a.before a0 Z = true := by
  intro d hd
  simp only [Bundle.stringAtoms, List.mem_cons, List.not_mem_nil, or_false] at hd
  rcases hd with rfl | rfl | rfl | rfl | rfl | rfl | rfl
  · exact hw _ (List.mem_of_getElem? (i := 6) rfl)
  · exact hw _ (List.mem_of_getElem? (i := 5) rfl)
  · exact hw _ (List.mem_of_getElem? (i := 23) rfl)
  · exact hw _ (List.mem_of_getElem? (i := 33) rfl)
  · exact hw _ (List.mem_of_getElem? (i := 31) rfl)
  · exact hw _ (List.mem_of_getElem? (i := 42) rfl)
  · exact hw _ (List.mem_of_getElem? (i := 43) rfl)
theorem hEW {a0 : Array Value} {Z : State} (hw : HW a0 Z) : ∃ a0, EW Z a0 consts_1 := ⟨a0, EW.cons (hw _ (List.mem_of_getElem? (i := 41) rfl)) (by decide) (EW.cons (hw _ (List.mem_of_getElem? (i := 48) rfl)) (by decide) (EW.cons (hw _ (List.mem_of_getElem? (i := 123) rfl)) (by decide) (EW.nil)))⟩
theorem d1_0 : decode method_2_code 0 = .ok (.iload_n 0, 1) := by decide +kernel
theorem d1_1 : decode method_2_code 1 = .ok (.iconst 1, 1) := by decide +kernel
theorem d1_2 : decode method_2_code 2 = .ok (.if_icmp .ne 19, 3) := by decide +kernel
theorem d1_5 : decode method_2_code 5 = .ok (.new 7, 3) := by decide +kernel
theorem d1_8 : decode method_2_code 8 = .ok (.dup, 1) := by decide +kernel
theorem d1_9 : decode method_2_code 9 = .ok (.iconst 1, 1) := by decide +kernel
theorem d1_10 : decode method_2_code 10 = .ok (.newarray .char, 2) := by decide +kernel
theorem d1_12 : decode method_2_code 12 = .ok (.dup, 1) := by decide +kernel
theorem d1_13 : decode method_2_code 13 = .ok (.iconst 0, 1) := by decide +kernel
theorem d1_14 : decode method_2_code 14 = .ok (.iload_n 1, 1) := by decide +kernel
theorem d1_15 : decode method_2_code 15 = .ok (.i2c, 1) := by decide +kernel
theorem d1_16 : decode method_2_code 16 = .ok (.castore, 1) := by decide +kernel
theorem d1_17 : decode method_2_code 17 = .ok (.invokespecial 9, 3) := by decide +kernel
theorem d1_20 : decode method_2_code 20 = .ok (.areturn, 1) := by decide +kernel
theorem d1_21 : decode method_2_code 21 = .ok (.new 7, 3) := by decide +kernel
theorem d1_24 : decode method_2_code 24 = .ok (.dup, 1) := by decide +kernel
theorem d1_25 : decode method_2_code 25 = .ok (.iconst 2, 1) := by decide +kernel
theorem d1_26 : decode method_2_code 26 = .ok (.newarray .char, 2) := by decide +kernel
theorem d1_28 : decode method_2_code 28 = .ok (.dup, 1) := by decide +kernel
theorem d1_29 : decode method_2_code 29 = .ok (.iconst 0, 1) := by decide +kernel
theorem d1_30 : decode method_2_code 30 = .ok (.iload_n 1, 1) := by decide +kernel
theorem d1_31 : decode method_2_code 31 = .ok (.i2c, 1) := by decide +kernel
theorem d1_32 : decode method_2_code 32 = .ok (.castore, 1) := by decide +kernel
theorem d1_33 : decode method_2_code 33 = .ok (.dup, 1) := by decide +kernel
theorem d1_34 : decode method_2_code 34 = .ok (.iconst 1, 1) := by decide +kernel
theorem d1_35 : decode method_2_code 35 = .ok (.iload_n 2, 1) := by decide +kernel
theorem d1_36 : decode method_2_code 36 = .ok (.i2c, 1) := by decide +kernel
theorem d1_37 : decode method_2_code 37 = .ok (.castore, 1) := by decide +kernel
theorem d1_38 : decode method_2_code 38 = .ok (.invokespecial 9, 3) := by decide +kernel
theorem d1_41 : decode method_2_code 41 = .ok (.areturn, 1) := by decide +kernel
theorem d2_0 : decode jdk_42_method_3_code 0 = .ok (.aload_n 0, 1) := by decide +kernel
theorem d2_1 : decode jdk_42_method_3_code 1 = .ok (.aload_n 1, 1) := by decide +kernel
theorem d2_2 : decode jdk_42_method_3_code 2 = .ok (.iconst 0, 1) := by decide +kernel
theorem d2_3 : decode jdk_42_method_3_code 3 = .ok (.aload_n 1, 1) := by decide +kernel
theorem d2_4 : decode jdk_42_method_3_code 4 = .ok (.arraylength, 1) := by decide +kernel
theorem d2_5 : decode jdk_42_method_3_code 5 = .ok (.aconst_null, 1) := by decide +kernel
theorem d2_6 : decode jdk_42_method_3_code 6 = .ok (.invokespecial 27, 3) := by decide +kernel
theorem d2_9 : decode jdk_42_method_3_code 9 = .ok (.return_, 1) := by decide +kernel
theorem d3_0 : decode jdk_42_method_149_code 0 = .ok (.aload_n 0, 1) := by decide +kernel
theorem d3_1 : decode jdk_42_method_149_code 1 = .ok (.invokespecial 1, 3) := by decide +kernel
theorem d3_4 : decode jdk_42_method_149_code 4 = .ok (.iload_n 3, 1) := by decide +kernel
theorem d3_5 : decode jdk_42_method_149_code 5 = .ok (.ifCond .ne 22, 3) := by decide +kernel
theorem d3_27 : decode jdk_42_method_149_code 27 = .ok (.getstatic 38, 3) := by decide +kernel
theorem d3_30 : decode jdk_42_method_149_code 30 = .ok (.ifCond .eq 28, 3) := by decide +kernel
theorem d3_33 : decode jdk_42_method_149_code 33 = .ok (.aload_n 1, 1) := by decide +kernel
theorem d3_34 : decode jdk_42_method_149_code 34 = .ok (.iload_n 2, 1) := by decide +kernel
theorem d3_35 : decode jdk_42_method_149_code 35 = .ok (.iload_n 3, 1) := by decide +kernel
theorem d3_36 : decode jdk_42_method_149_code 36 = .ok (.invokestatic 177, 3) := by decide +kernel
theorem d3_39 : decode jdk_42_method_149_code 39 = .ok (.astore 5, 2) := by decide +kernel
theorem d3_41 : decode jdk_42_method_149_code 41 = .ok (.aload_n 0, 1) := by decide +kernel
theorem d3_42 : decode jdk_42_method_149_code 42 = .ok (.aload 5, 2) := by decide +kernel
theorem d3_44 : decode jdk_42_method_149_code 44 = .ok (.iload_n 3, 1) := by decide +kernel
theorem d3_45 : decode jdk_42_method_149_code 45 = .ok (.invokestatic 47, 3) := by decide +kernel
theorem d3_48 : decode jdk_42_method_149_code 48 = .ok (.putfield 15, 3) := by decide +kernel
theorem d3_51 : decode jdk_42_method_149_code 51 = .ok (.aload_n 0, 1) := by decide +kernel
theorem d3_52 : decode jdk_42_method_149_code 52 = .ok (.aload 5, 2) := by decide +kernel
theorem d3_54 : decode jdk_42_method_149_code 54 = .ok (.putfield 9, 3) := by decide +kernel
theorem d3_57 : decode jdk_42_method_149_code 57 = .ok (.return_, 1) := by decide +kernel
theorem d5_0 : decode jdk_52_method_16_code 0 = .ok (.iload_n 2, 1) := by decide +kernel
theorem d5_1 : decode jdk_52_method_16_code 1 = .ok (.newarray .byte, 2) := by decide +kernel
theorem d5_3 : decode jdk_52_method_16_code 3 = .ok (.astore_n 3, 1) := by decide +kernel
theorem d5_4 : decode jdk_52_method_16_code 4 = .ok (.aload_n 0, 1) := by decide +kernel
theorem d5_5 : decode jdk_52_method_16_code 5 = .ok (.iload_n 1, 1) := by decide +kernel
theorem d5_6 : decode jdk_52_method_16_code 6 = .ok (.aload_n 3, 1) := by decide +kernel
theorem d5_7 : decode jdk_52_method_16_code 7 = .ok (.iconst 0, 1) := by decide +kernel
theorem d5_8 : decode jdk_52_method_16_code 8 = .ok (.iload_n 2, 1) := by decide +kernel
theorem d5_9 : decode jdk_52_method_16_code 9 = .ok (.invokestatic 115, 3) := by decide +kernel
theorem d5_12 : decode jdk_52_method_16_code 12 = .ok (.istore 4, 2) := by decide +kernel
theorem d5_14 : decode jdk_52_method_16_code 14 = .ok (.iload 4, 2) := by decide +kernel
theorem d5_16 : decode jdk_52_method_16_code 16 = .ok (.iload_n 2, 1) := by decide +kernel
theorem d5_17 : decode jdk_52_method_16_code 17 = .ok (.if_icmp .eq 40, 3) := by decide +kernel
theorem d5_57 : decode jdk_52_method_16_code 57 = .ok (.aload_n 3, 1) := by decide +kernel
theorem d5_58 : decode jdk_52_method_16_code 58 = .ok (.areturn, 1) := by decide +kernel
theorem d6_0 : decode jdk_52_method_21_code 0 = .ok (.iconst 0, 1) := by decide +kernel
theorem d6_1 : decode jdk_52_method_21_code 1 = .ok (.istore 5, 2) := by decide +kernel
theorem d6_3 : decode jdk_52_method_21_code 3 = .ok (.iload 5, 2) := by decide +kernel
theorem d6_5 : decode jdk_52_method_21_code 5 = .ok (.iload 4, 2) := by decide +kernel
theorem d6_7 : decode jdk_52_method_21_code 7 = .ok (.if_icmp .ge 37, 3) := by decide +kernel
theorem d6_10 : decode jdk_52_method_21_code 10 = .ok (.aload_n 0, 1) := by decide +kernel
theorem d6_11 : decode jdk_52_method_21_code 11 = .ok (.iload_n 1, 1) := by decide +kernel
theorem d6_12 : decode jdk_52_method_21_code 12 = .ok (.caload, 1) := by decide +kernel
theorem d6_13 : decode jdk_52_method_21_code 13 = .ok (.istore 6, 2) := by decide +kernel
theorem d6_15 : decode jdk_52_method_21_code 15 = .ok (.iload 6, 2) := by decide +kernel
theorem d6_17 : decode jdk_52_method_21_code 17 = .ok (.sipush 255, 3) := by decide +kernel
theorem d6_20 : decode jdk_52_method_21_code 20 = .ok (.if_icmp .le 6, 3) := by decide +kernel
theorem d6_26 : decode jdk_52_method_21_code 26 = .ok (.aload_n 2, 1) := by decide +kernel
theorem d6_27 : decode jdk_52_method_21_code 27 = .ok (.iload_n 3, 1) := by decide +kernel
theorem d6_28 : decode jdk_52_method_21_code 28 = .ok (.iload 6, 2) := by decide +kernel
theorem d6_30 : decode jdk_52_method_21_code 30 = .ok (.i2b, 1) := by decide +kernel
theorem d6_31 : decode jdk_52_method_21_code 31 = .ok (.bastore, 1) := by decide +kernel
theorem d6_32 : decode jdk_52_method_21_code 32 = .ok (.iinc 1 1, 3) := by decide +kernel
theorem d6_35 : decode jdk_52_method_21_code 35 = .ok (.iinc 3 1, 3) := by decide +kernel
theorem d6_38 : decode jdk_52_method_21_code 38 = .ok (.iinc 5 1, 3) := by decide +kernel
theorem d6_41 : decode jdk_52_method_21_code 41 = .ok (.goto (-38), 3) := by decide +kernel
theorem d6_44 : decode jdk_52_method_21_code 44 = .ok (.iload 4, 2) := by decide +kernel
theorem d6_46 : decode jdk_52_method_21_code 46 = .ok (.ireturn, 1) := by decide +kernel
theorem d7_0 : decode jdk_52_method_15_code 0 = .ok (.iload_n 1, 1) := by decide +kernel
theorem d7_1 : decode jdk_52_method_15_code 1 = .ok (.aload_n 0, 1) := by decide +kernel
theorem d7_2 : decode jdk_52_method_15_code 2 = .ok (.arraylength, 1) := by decide +kernel
theorem d7_3 : decode jdk_52_method_15_code 3 = .ok (.isub, 1) := by decide +kernel
theorem d7_4 : decode jdk_52_method_15_code 4 = .ok (.bipush 31, 2) := by decide +kernel
theorem d7_6 : decode jdk_52_method_15_code 6 = .ok (.iushr, 1) := by decide +kernel
theorem d7_7 : decode jdk_52_method_15_code 7 = .ok (.i2b, 1) := by decide +kernel
theorem d7_8 : decode jdk_52_method_15_code 8 = .ok (.ireturn, 1) := by decide +kernel
theorem d8_0 : decode prog_13_method_1_code 0 = .ok (.aload_n 0, 1) := by decide +kernel
theorem d8_1 : decode prog_13_method_1_code 1 = .ok (.invokespecial 1, 3) := by decide +kernel
theorem d8_4 : decode prog_13_method_1_code 4 = .ok (.aload_n 1, 1) := by decide +kernel
theorem d8_5 : decode prog_13_method_1_code 5 = .ok (.ldc 7, 2) := by decide +kernel
theorem d8_7 : decode prog_13_method_1_code 7 = .ok (.invokestatic 9, 3) := by decide +kernel
theorem d8_10 : decode prog_13_method_1_code 10 = .ok (.pop, 1) := by decide +kernel
theorem d8_11 : decode prog_13_method_1_code 11 = .ok (.aload_n 2, 1) := by decide +kernel
theorem d8_12 : decode prog_13_method_1_code 12 = .ok (.ldc 15, 2) := by decide +kernel
theorem d8_14 : decode prog_13_method_1_code 14 = .ok (.invokestatic 9, 3) := by decide +kernel
theorem d8_17 : decode prog_13_method_1_code 17 = .ok (.pop, 1) := by decide +kernel
theorem d8_18 : decode prog_13_method_1_code 18 = .ok (.aload_n 1, 1) := by decide +kernel
theorem d8_19 : decode prog_13_method_1_code 19 = .ok (.invokevirtual 17, 3) := by decide +kernel
theorem d8_22 : decode prog_13_method_1_code 22 = .ok (.ifCond .ne 10, 3) := by decide +kernel
theorem d8_25 : decode prog_13_method_1_code 25 = .ok (.aload_n 2, 1) := by decide +kernel
theorem d8_26 : decode prog_13_method_1_code 26 = .ok (.invokevirtual 17, 3) := by decide +kernel
theorem d8_29 : decode prog_13_method_1_code 29 = .ok (.ifCond .eq 13, 3) := by decide +kernel
theorem d8_42 : decode prog_13_method_1_code 42 = .ok (.aload_n 0, 1) := by decide +kernel
theorem d8_43 : decode prog_13_method_1_code 43 = .ok (.aload_n 1, 1) := by decide +kernel
theorem d8_44 : decode prog_13_method_1_code 44 = .ok (.putfield 30, 3) := by decide +kernel
theorem d8_47 : decode prog_13_method_1_code 47 = .ok (.aload_n 0, 1) := by decide +kernel
theorem d8_48 : decode prog_13_method_1_code 48 = .ok (.aload_n 2, 1) := by decide +kernel
theorem d8_49 : decode prog_13_method_1_code 49 = .ok (.putfield 35, 3) := by decide +kernel
theorem d8_52 : decode prog_13_method_1_code 52 = .ok (.aload_n 0, 1) := by decide +kernel
theorem d8_53 : decode prog_13_method_1_code 53 = .ok (.new 37, 3) := by decide +kernel
theorem d8_56 : decode prog_13_method_1_code 56 = .ok (.dup, 1) := by decide +kernel
theorem d8_57 : decode prog_13_method_1_code 57 = .ok (.invokespecial 39, 3) := by decide +kernel
theorem d8_60 : decode prog_13_method_1_code 60 = .ok (.aload_n 1, 1) := by decide +kernel
theorem d8_61 : decode prog_13_method_1_code 61 = .ok (.invokevirtual 40, 3) := by decide +kernel
theorem d8_64 : decode prog_13_method_1_code 64 = .ok (.ldc 44, 2) := by decide +kernel
theorem d8_66 : decode prog_13_method_1_code 66 = .ok (.invokevirtual 40, 3) := by decide +kernel
theorem d8_69 : decode prog_13_method_1_code 69 = .ok (.aload_n 2, 1) := by decide +kernel
theorem d8_70 : decode prog_13_method_1_code 70 = .ok (.invokevirtual 40, 3) := by decide +kernel
theorem d8_73 : decode prog_13_method_1_code 73 = .ok (.invokevirtual 46, 3) := by decide +kernel
theorem d8_76 : decode prog_13_method_1_code 76 = .ok (.putfield 50, 3) := by decide +kernel
theorem d8_79 : decode prog_13_method_1_code 79 = .ok (.aload_n 0, 1) := by decide +kernel
theorem d8_80 : decode prog_13_method_1_code 80 = .ok (.iconst 2, 1) := by decide +kernel
theorem d8_81 : decode prog_13_method_1_code 81 = .ok (.anewarray 2, 3) := by decide +kernel
theorem d8_84 : decode prog_13_method_1_code 84 = .ok (.dup, 1) := by decide +kernel
theorem d8_85 : decode prog_13_method_1_code 85 = .ok (.iconst 0, 1) := by decide +kernel
theorem d8_86 : decode prog_13_method_1_code 86 = .ok (.aload_n 1, 1) := by decide +kernel
theorem d8_87 : decode prog_13_method_1_code 87 = .ok (.aastore, 1) := by decide +kernel
theorem d8_88 : decode prog_13_method_1_code 88 = .ok (.dup, 1) := by decide +kernel
theorem d8_89 : decode prog_13_method_1_code 89 = .ok (.iconst 1, 1) := by decide +kernel
theorem d8_90 : decode prog_13_method_1_code 90 = .ok (.aload_n 2, 1) := by decide +kernel
theorem d8_91 : decode prog_13_method_1_code 91 = .ok (.aastore, 1) := by decide +kernel
theorem d8_92 : decode prog_13_method_1_code 92 = .ok (.invokestatic 53, 3) := by decide +kernel
theorem d8_95 : decode prog_13_method_1_code 95 = .ok (.putfield 57, 3) := by decide +kernel
theorem d8_98 : decode prog_13_method_1_code 98 = .ok (.return_, 1) := by decide +kernel
theorem d9_0 : decode jdk_31_method_11_code 0 = .ok (.aload_n 0, 1) := by decide +kernel
theorem d9_1 : decode jdk_31_method_11_code 1 = .ok (.ifnonnull 12, 3) := by decide +kernel
theorem d9_13 : decode jdk_31_method_11_code 13 = .ok (.aload_n 0, 1) := by decide +kernel
theorem d9_14 : decode jdk_31_method_11_code 14 = .ok (.areturn, 1) := by decide +kernel
theorem d10_0 : decode jdk_42_method_55_code 0 = .ok (.aload_n 0, 1) := by decide +kernel
theorem d10_1 : decode jdk_42_method_55_code 1 = .ok (.getfield 9, 3) := by decide +kernel
theorem d10_4 : decode jdk_42_method_55_code 4 = .ok (.arraylength, 1) := by decide +kernel
theorem d10_5 : decode jdk_42_method_55_code 5 = .ok (.ifCond .ne 7, 3) := by decide +kernel
theorem d10_12 : decode jdk_42_method_55_code 12 = .ok (.iconst 0, 1) := by decide +kernel
theorem d10_13 : decode jdk_42_method_55_code 13 = .ok (.ireturn, 1) := by decide +kernel
theorem d11_0 : decode jdk_67_method_1_code 0 = .ok (.aload_n 0, 1) := by decide +kernel
theorem d11_1 : decode jdk_67_method_1_code 1 = .ok (.bipush 16, 2) := by decide +kernel
theorem d11_3 : decode jdk_67_method_1_code 3 = .ok (.invokespecial 1, 3) := by decide +kernel
theorem d11_6 : decode jdk_67_method_1_code 6 = .ok (.return_, 1) := by decide +kernel
theorem d12_0 : decode jdk_68_method_2_code 0 = .ok (.aload_n 0, 1) := by decide +kernel
theorem d12_1 : decode jdk_68_method_2_code 1 = .ok (.invokespecial 3, 3) := by decide +kernel
theorem d12_4 : decode jdk_68_method_2_code 4 = .ok (.getstatic 18, 3) := by decide +kernel
theorem d12_7 : decode jdk_68_method_2_code 7 = .ok (.ifCond .eq 18, 3) := by decide +kernel
theorem d12_10 : decode jdk_68_method_2_code 10 = .ok (.aload_n 0, 1) := by decide +kernel
theorem d12_11 : decode jdk_68_method_2_code 11 = .ok (.iload_n 1, 1) := by decide +kernel
theorem d12_12 : decode jdk_68_method_2_code 12 = .ok (.newarray .byte, 2) := by decide +kernel
theorem d12_14 : decode jdk_68_method_2_code 14 = .ok (.putfield 15, 3) := by decide +kernel
theorem d12_17 : decode jdk_68_method_2_code 17 = .ok (.aload_n 0, 1) := by decide +kernel
theorem d12_18 : decode jdk_68_method_2_code 18 = .ok (.iconst 0, 1) := by decide +kernel
theorem d12_19 : decode jdk_68_method_2_code 19 = .ok (.putfield 22, 3) := by decide +kernel
theorem d12_22 : decode jdk_68_method_2_code 22 = .ok (.goto 16, 3) := by decide +kernel
theorem d12_38 : decode jdk_68_method_2_code 38 = .ok (.return_, 1) := by decide +kernel
theorem d13_0 : decode jdk_67_method_7_code 0 = .ok (.aload_n 0, 1) := by decide +kernel
theorem d13_1 : decode jdk_67_method_7_code 1 = .ok (.aload_n 1, 1) := by decide +kernel
theorem d13_2 : decode jdk_67_method_7_code 2 = .ok (.invokespecial 29, 3) := by decide +kernel
theorem d13_5 : decode jdk_67_method_7_code 5 = .ok (.pop, 1) := by decide +kernel
theorem d13_6 : decode jdk_67_method_7_code 6 = .ok (.aload_n 0, 1) := by decide +kernel
theorem d13_7 : decode jdk_67_method_7_code 7 = .ok (.areturn, 1) := by decide +kernel
theorem d14_0 : decode jdk_68_method_22_code 0 = .ok (.aload_n 1, 1) := by decide +kernel
theorem d14_1 : decode jdk_68_method_22_code 1 = .ok (.ifnonnull 8, 3) := by decide +kernel
theorem d14_9 : decode jdk_68_method_22_code 9 = .ok (.aload_n 1, 1) := by decide +kernel
theorem d14_10 : decode jdk_68_method_22_code 10 = .ok (.invokevirtual 32, 3) := by decide +kernel
theorem d14_13 : decode jdk_68_method_22_code 13 = .ok (.istore_n 2, 1) := by decide +kernel
theorem d14_14 : decode jdk_68_method_22_code 14 = .ok (.aload_n 0, 1) := by decide +kernel
theorem d14_15 : decode jdk_68_method_22_code 15 = .ok (.aload_n 0, 1) := by decide +kernel
theorem d14_16 : decode jdk_68_method_22_code 16 = .ok (.getfield 79, 3) := by decide +kernel
theorem d14_19 : decode jdk_68_method_22_code 19 = .ok (.iload_n 2, 1) := by decide +kernel
theorem d14_20 : decode jdk_68_method_22_code 20 = .ok (.iadd, 1) := by decide +kernel
theorem d14_21 : decode jdk_68_method_22_code 21 = .ok (.invokevirtual 100, 3) := by decide +kernel
theorem d14_24 : decode jdk_68_method_22_code 24 = .ok (.aload_n 0, 1) := by decide +kernel
theorem d14_25 : decode jdk_68_method_22_code 25 = .ok (.aload_n 0, 1) := by decide +kernel
theorem d14_26 : decode jdk_68_method_22_code 26 = .ok (.getfield 79, 3) := by decide +kernel
theorem d14_29 : decode jdk_68_method_22_code 29 = .ok (.aload_n 1, 1) := by decide +kernel
theorem d14_30 : decode jdk_68_method_22_code 30 = .ok (.invokevirtual 208, 3) := by decide +kernel
theorem d14_33 : decode jdk_68_method_22_code 33 = .ok (.aload_n 0, 1) := by decide +kernel
theorem d14_34 : decode jdk_68_method_22_code 34 = .ok (.dup, 1) := by decide +kernel
theorem d14_35 : decode jdk_68_method_22_code 35 = .ok (.getfield 79, 3) := by decide +kernel
theorem d14_38 : decode jdk_68_method_22_code 38 = .ok (.iload_n 2, 1) := by decide +kernel
theorem d14_39 : decode jdk_68_method_22_code 39 = .ok (.iadd, 1) := by decide +kernel
theorem d14_40 : decode jdk_68_method_22_code 40 = .ok (.putfield 79, 3) := by decide +kernel
theorem d14_43 : decode jdk_68_method_22_code 43 = .ok (.aload_n 0, 1) := by decide +kernel
theorem d14_44 : decode jdk_68_method_22_code 44 = .ok (.areturn, 1) := by decide +kernel
theorem d15_0 : decode jdk_42_method_54_code 0 = .ok (.aload_n 0, 1) := by decide +kernel
theorem d15_1 : decode jdk_42_method_54_code 1 = .ok (.getfield 9, 3) := by decide +kernel
theorem d15_4 : decode jdk_42_method_54_code 4 = .ok (.arraylength, 1) := by decide +kernel
theorem d15_5 : decode jdk_42_method_54_code 5 = .ok (.aload_n 0, 1) := by decide +kernel
theorem d15_6 : decode jdk_42_method_54_code 6 = .ok (.invokevirtual 335, 3) := by decide +kernel
theorem d15_9 : decode jdk_42_method_54_code 9 = .ok (.ishr, 1) := by decide +kernel
theorem d15_10 : decode jdk_42_method_54_code 10 = .ok (.ireturn, 1) := by decide +kernel
theorem d16_0 : decode jdk_42_method_152_code 0 = .ok (.getstatic 38, 3) := by decide +kernel
theorem d16_3 : decode jdk_42_method_152_code 3 = .ok (.ifCond .eq 10, 3) := by decide +kernel
theorem d16_6 : decode jdk_42_method_152_code 6 = .ok (.aload_n 0, 1) := by decide +kernel
theorem d16_7 : decode jdk_42_method_152_code 7 = .ok (.getfield 15, 3) := by decide +kernel
theorem d16_10 : decode jdk_42_method_152_code 10 = .ok (.goto 4, 3) := by decide +kernel
theorem d16_14 : decode jdk_42_method_152_code 14 = .ok (.ireturn, 1) := by decide +kernel
theorem d17_0 : decode jdk_68_method_9_code 0 = .ok (.aload_n 0, 1) := by decide +kernel
theorem d17_1 : decode jdk_68_method_9_code 1 = .ok (.getfield 15, 3) := by decide +kernel
theorem d17_4 : decode jdk_68_method_9_code 4 = .ok (.arraylength, 1) := by decide +kernel
theorem d17_5 : decode jdk_68_method_9_code 5 = .ok (.aload_n 0, 1) := by decide +kernel
theorem d17_6 : decode jdk_68_method_9_code 6 = .ok (.getfield 22, 3) := by decide +kernel
theorem d17_9 : decode jdk_68_method_9_code 9 = .ok (.ishr, 1) := by decide +kernel
theorem d17_10 : decode jdk_68_method_9_code 10 = .ok (.istore_n 2, 1) := by decide +kernel
theorem d17_11 : decode jdk_68_method_9_code 11 = .ok (.iload_n 1, 1) := by decide +kernel
theorem d17_12 : decode jdk_68_method_9_code 12 = .ok (.iload_n 2, 1) := by decide +kernel
theorem d17_13 : decode jdk_68_method_9_code 13 = .ok (.isub, 1) := by decide +kernel
theorem d17_14 : decode jdk_68_method_9_code 14 = .ok (.ifCond .le 24, 3) := by decide +kernel
theorem d17_38 : decode jdk_68_method_9_code 38 = .ok (.return_, 1) := by decide +kernel
theorem d18_0 : decode jdk_68_method_73_code 0 = .ok (.aload_n 0, 1) := by decide +kernel
theorem d18_1 : decode jdk_68_method_73_code 1 = .ok (.aload_n 2, 1) := by decide +kernel
theorem d18_2 : decode jdk_68_method_73_code 2 = .ok (.invokevirtual 397, 3) := by decide +kernel
theorem d18_5 : decode jdk_68_method_73_code 5 = .ok (.aload_n 2, 1) := by decide +kernel
theorem d18_6 : decode jdk_68_method_73_code 6 = .ok (.aload_n 0, 1) := by decide +kernel
theorem d18_7 : decode jdk_68_method_73_code 7 = .ok (.getfield 15, 3) := by decide +kernel
theorem d18_10 : decode jdk_68_method_73_code 10 = .ok (.iload_n 1, 1) := by decide +kernel
theorem d18_11 : decode jdk_68_method_73_code 11 = .ok (.aload_n 0, 1) := by decide +kernel
theorem d18_12 : decode jdk_68_method_73_code 12 = .ok (.getfield 22, 3) := by decide +kernel
theorem d18_15 : decode jdk_68_method_73_code 15 = .ok (.invokevirtual 399, 3) := by decide +kernel
theorem d18_18 : decode jdk_68_method_73_code 18 = .ok (.return_, 1) := by decide +kernel
theorem d19_0 : decode jdk_68_method_71_code 0 = .ok (.getstatic 18, 3) := by decide +kernel
theorem d19_3 : decode jdk_68_method_71_code 3 = .ok (.ifCond .eq 18, 3) := by decide +kernel
theorem d19_6 : decode jdk_68_method_71_code 6 = .ok (.aload_n 0, 1) := by decide +kernel
theorem d19_7 : decode jdk_68_method_71_code 7 = .ok (.getfield 22, 3) := by decide +kernel
theorem d19_10 : decode jdk_68_method_71_code 10 = .ok (.aload_n 1, 1) := by decide +kernel
theorem d19_11 : decode jdk_68_method_71_code 11 = .ok (.invokevirtual 40, 3) := by decide +kernel
theorem d19_14 : decode jdk_68_method_71_code 14 = .ok (.if_icmp .eq 7, 3) := by decide +kernel
theorem d19_21 : decode jdk_68_method_71_code 21 = .ok (.return_, 1) := by decide +kernel
theorem d20_0 : decode jdk_42_method_147_code 0 = .ok (.aload_n 0, 1) := by decide +kernel
theorem d20_1 : decode jdk_42_method_147_code 1 = .ok (.invokevirtual 335, 3) := by decide +kernel
theorem d20_4 : decode jdk_42_method_147_code 4 = .ok (.iload_n 3, 1) := by decide +kernel
theorem d20_5 : decode jdk_42_method_147_code 5 = .ok (.if_icmp .ne 23, 3) := by decide +kernel
theorem d20_8 : decode jdk_42_method_147_code 8 = .ok (.aload_n 0, 1) := by decide +kernel
theorem d20_9 : decode jdk_42_method_147_code 9 = .ok (.getfield 9, 3) := by decide +kernel
theorem d20_12 : decode jdk_42_method_147_code 12 = .ok (.iconst 0, 1) := by decide +kernel
theorem d20_13 : decode jdk_42_method_147_code 13 = .ok (.aload_n 1, 1) := by decide +kernel
theorem d20_14 : decode jdk_42_method_147_code 14 = .ok (.iload_n 2, 1) := by decide +kernel
theorem d20_15 : decode jdk_42_method_147_code 15 = .ok (.iload_n 3, 1) := by decide +kernel
theorem d20_16 : decode jdk_42_method_147_code 16 = .ok (.ishl, 1) := by decide +kernel
theorem d20_17 : decode jdk_42_method_147_code 17 = .ok (.aload_n 0, 1) := by decide +kernel
theorem d20_18 : decode jdk_42_method_147_code 18 = .ok (.getfield 9, 3) := by decide +kernel
theorem d20_21 : decode jdk_42_method_147_code 21 = .ok (.arraylength, 1) := by decide +kernel
theorem d20_22 : decode jdk_42_method_147_code 22 = .ok (.invokestatic 212, 3) := by decide +kernel
theorem d20_25 : decode jdk_42_method_147_code 25 = .ok (.goto 18, 3) := by decide +kernel
theorem d20_43 : decode jdk_42_method_147_code 43 = .ok (.return_, 1) := by decide +kernel
theorem d21_0 : decode jdk_67_method_42_code 0 = .ok (.new 18, 3) := by decide +kernel
theorem d21_3 : decode jdk_67_method_42_code 3 = .ok (.dup, 1) := by decide +kernel
theorem d21_4 : decode jdk_67_method_42_code 4 = .ok (.aload_n 0, 1) := by decide +kernel
theorem d21_5 : decode jdk_67_method_42_code 5 = .ok (.invokespecial 137, 3) := by decide +kernel
theorem d21_8 : decode jdk_67_method_42_code 8 = .ok (.areturn, 1) := by decide +kernel
theorem d22_0 : decode jdk_42_method_53_code 0 = .ok (.aload_n 0, 1) := by decide +kernel
theorem d22_1 : decode jdk_42_method_53_code 1 = .ok (.aload_n 1, 1) := by decide +kernel
theorem d22_2 : decode jdk_42_method_53_code 2 = .ok (.aconst_null, 1) := by decide +kernel
theorem d22_3 : decode jdk_42_method_53_code 3 = .ok (.invokespecial 489, 3) := by decide +kernel
theorem d22_6 : decode jdk_42_method_53_code 6 = .ok (.return_, 1) := by decide +kernel
theorem d23_0 : decode jdk_42_method_150_code 0 = .ok (.aload_n 0, 1) := by decide +kernel
theorem d23_1 : decode jdk_42_method_150_code 1 = .ok (.invokespecial 1, 3) := by decide +kernel
theorem d23_4 : decode jdk_42_method_150_code 4 = .ok (.aload_n 1, 1) := by decide +kernel
theorem d23_5 : decode jdk_42_method_150_code 5 = .ok (.invokevirtual 552, 3) := by decide +kernel
theorem d23_8 : decode jdk_42_method_150_code 8 = .ok (.astore_n 3, 1) := by decide +kernel
theorem d23_9 : decode jdk_42_method_150_code 9 = .ok (.aload_n 1, 1) := by decide +kernel
theorem d23_10 : decode jdk_42_method_150_code 10 = .ok (.invokevirtual 549, 3) := by decide +kernel
theorem d23_13 : decode jdk_42_method_150_code 13 = .ok (.istore 4, 2) := by decide +kernel
theorem d23_15 : decode jdk_42_method_150_code 15 = .ok (.aload_n 1, 1) := by decide +kernel
theorem d23_16 : decode jdk_42_method_150_code 16 = .ok (.invokevirtual 1047, 3) := by decide +kernel
theorem d23_19 : decode jdk_42_method_150_code 19 = .ok (.ifCond .eq 22, 3) := by decide +kernel
theorem d23_22 : decode jdk_42_method_150_code 22 = .ok (.aload_n 0, 1) := by decide +kernel
theorem d23_23 : decode jdk_42_method_150_code 23 = .ok (.iconst 0, 1) := by decide +kernel
theorem d23_24 : decode jdk_42_method_150_code 24 = .ok (.putfield 15, 3) := by decide +kernel
theorem d23_27 : decode jdk_42_method_150_code 27 = .ok (.aload_n 0, 1) := by decide +kernel
theorem d23_28 : decode jdk_42_method_150_code 28 = .ok (.aload_n 3, 1) := by decide +kernel
theorem d23_29 : decode jdk_42_method_150_code 29 = .ok (.iconst 0, 1) := by decide +kernel
theorem d23_30 : decode jdk_42_method_150_code 30 = .ok (.iload 4, 2) := by decide +kernel
theorem d23_32 : decode jdk_42_method_150_code 32 = .ok (.invokestatic 54, 3) := by decide +kernel
theorem d23_35 : decode jdk_42_method_150_code 35 = .ok (.putfield 9, 3) := by decide +kernel
theorem d23_38 : decode jdk_42_method_150_code 38 = .ok (.goto 59, 3) := by decide +kernel
theorem d23_97 : decode jdk_42_method_150_code 97 = .ok (.return_, 1) := by decide +kernel
theorem d24_0 : decode jdk_68_method_64_code 0 = .ok (.aload_n 0, 1) := by decide +kernel
theorem d24_1 : decode jdk_68_method_64_code 1 = .ok (.getfield 15, 3) := by decide +kernel
theorem d24_4 : decode jdk_68_method_64_code 4 = .ok (.areturn, 1) := by decide +kernel
theorem d25_0 : decode jdk_67_method_93_code 0 = .ok (.aload_n 0, 1) := by decide +kernel
theorem d25_1 : decode jdk_67_method_93_code 1 = .ok (.invokespecial 343, 3) := by decide +kernel
theorem d25_4 : decode jdk_67_method_93_code 4 = .ok (.ireturn, 1) := by decide +kernel
theorem d26_0 : decode jdk_68_method_6_code 0 = .ok (.aload_n 0, 1) := by decide +kernel
theorem d26_1 : decode jdk_68_method_6_code 1 = .ok (.getfield 79, 3) := by decide +kernel
theorem d26_4 : decode jdk_68_method_6_code 4 = .ok (.ireturn, 1) := by decide +kernel
theorem d27_0 : decode jdk_68_method_68_code 0 = .ok (.getstatic 18, 3) := by decide +kernel
theorem d27_3 : decode jdk_68_method_68_code 3 = .ok (.ifCond .eq 14, 3) := by decide +kernel
theorem d27_6 : decode jdk_68_method_68_code 6 = .ok (.aload_n 0, 1) := by decide +kernel
theorem d27_7 : decode jdk_68_method_68_code 7 = .ok (.getfield 22, 3) := by decide +kernel
theorem d27_10 : decode jdk_68_method_68_code 10 = .ok (.ifCond .ne 7, 3) := by decide +kernel
theorem d27_13 : decode jdk_68_method_68_code 13 = .ok (.iconst 1, 1) := by decide +kernel
theorem d27_14 : decode jdk_68_method_68_code 14 = .ok (.goto 4, 3) := by decide +kernel
theorem d27_18 : decode jdk_68_method_68_code 18 = .ok (.ireturn, 1) := by decide +kernel
theorem d28_0 : decode jdk_65_method_132_code 0 = .ok (.iload_n 1, 1) := by decide +kernel
theorem d28_1 : decode jdk_65_method_132_code 1 = .ok (.ifCond .ne 9, 3) := by decide +kernel
theorem d28_4 : decode jdk_65_method_132_code 4 = .ok (.iload_n 2, 1) := by decide +kernel
theorem d28_5 : decode jdk_65_method_132_code 5 = .ok (.aload_n 0, 1) := by decide +kernel
theorem d28_6 : decode jdk_65_method_132_code 6 = .ok (.arraylength, 1) := by decide +kernel
theorem d28_7 : decode jdk_65_method_132_code 7 = .ok (.if_icmp .eq 10, 3) := by decide +kernel
theorem d28_10 : decode jdk_65_method_132_code 10 = .ok (.aload_n 0, 1) := by decide +kernel
theorem d28_11 : decode jdk_65_method_132_code 11 = .ok (.iload_n 1, 1) := by decide +kernel
theorem d28_12 : decode jdk_65_method_132_code 12 = .ok (.iload_n 2, 1) := by decide +kernel
theorem d28_13 : decode jdk_65_method_132_code 13 = .ok (.invokestatic 339, 3) := by decide +kernel
theorem d28_16 : decode jdk_65_method_132_code 16 = .ok (.areturn, 1) := by decide +kernel
theorem d29_0 : decode jdk_65_method_133_code 0 = .ok (.iload_n 1, 1) := by decide +kernel
theorem d29_1 : decode jdk_65_method_133_code 1 = .ok (.iload_n 2, 1) := by decide +kernel
theorem d29_2 : decode jdk_65_method_133_code 2 = .ok (.invokestatic 343, 3) := by decide +kernel
theorem d29_5 : decode jdk_65_method_133_code 5 = .ok (.iload_n 2, 1) := by decide +kernel
theorem d29_6 : decode jdk_65_method_133_code 6 = .ok (.iload_n 1, 1) := by decide +kernel
theorem d29_7 : decode jdk_65_method_133_code 7 = .ok (.isub, 1) := by decide +kernel
theorem d29_8 : decode jdk_65_method_133_code 8 = .ok (.istore_n 3, 1) := by decide +kernel
theorem d29_9 : decode jdk_65_method_133_code 9 = .ok (.iload_n 3, 1) := by decide +kernel
theorem d29_10 : decode jdk_65_method_133_code 10 = .ok (.newarray .byte, 2) := by decide +kernel
theorem d29_12 : decode jdk_65_method_133_code 12 = .ok (.astore 4, 2) := by decide +kernel
theorem d29_14 : decode jdk_65_method_133_code 14 = .ok (.aload_n 0, 1) := by decide +kernel
theorem d29_15 : decode jdk_65_method_133_code 15 = .ok (.iload_n 1, 1) := by decide +kernel
theorem d29_16 : decode jdk_65_method_133_code 16 = .ok (.aload 4, 2) := by decide +kernel
theorem d29_18 : decode jdk_65_method_133_code 18 = .ok (.iconst 0, 1) := by decide +kernel
theorem d29_19 : decode jdk_65_method_133_code 19 = .ok (.aload_n 0, 1) := by decide +kernel
theorem d29_20 : decode jdk_65_method_133_code 20 = .ok (.arraylength, 1) := by decide +kernel
theorem d29_21 : decode jdk_65_method_133_code 21 = .ok (.iload_n 1, 1) := by decide +kernel
theorem d29_22 : decode jdk_65_method_133_code 22 = .ok (.isub, 1) := by decide +kernel
theorem d29_23 : decode jdk_65_method_133_code 23 = .ok (.iload_n 3, 1) := by decide +kernel
theorem d29_24 : decode jdk_65_method_133_code 24 = .ok (.invokestatic 304, 3) := by decide +kernel
theorem d29_27 : decode jdk_65_method_133_code 27 = .ok (.invokestatic 150, 3) := by decide +kernel
theorem d29_30 : decode jdk_65_method_133_code 30 = .ok (.aload 4, 2) := by decide +kernel
theorem d29_32 : decode jdk_65_method_133_code 32 = .ok (.areturn, 1) := by decide +kernel
theorem d30_0 : decode jdk_65_method_131_code 0 = .ok (.iload_n 1, 1) := by decide +kernel
theorem d30_1 : decode jdk_65_method_131_code 1 = .ok (.iload_n 0, 1) := by decide +kernel
theorem d30_2 : decode jdk_65_method_131_code 2 = .ok (.if_icmp .ge 35, 3) := by decide +kernel
theorem d30_37 : decode jdk_65_method_131_code 37 = .ok (.return_, 1) := by decide +kernel
theorem d31_0 : decode jdk_29_method_69_code 0 = .ok (.iload_n 0, 1) := by decide +kernel
theorem d31_1 : decode jdk_29_method_69_code 1 = .ok (.iload_n 1, 1) := by decide +kernel
theorem d31_2 : decode jdk_29_method_69_code 2 = .ok (.if_icmp .gt 7, 3) := by decide +kernel
theorem d31_5 : decode jdk_29_method_69_code 5 = .ok (.iload_n 0, 1) := by decide +kernel
theorem d31_6 : decode jdk_29_method_69_code 6 = .ok (.goto 4, 3) := by decide +kernel
theorem d31_9 : decode jdk_29_method_69_code 9 = .ok (.iload_n 1, 1) := by decide +kernel
theorem d31_10 : decode jdk_29_method_69_code 10 = .ok (.ireturn, 1) := by decide +kernel
theorem d32_0 : decode jdk_31_method_5_code 0 = .ok (.aload_n 0, 1) := by decide +kernel
theorem d32_1 : decode jdk_31_method_5_code 1 = .ok (.invokestatic 28, 3) := by decide +kernel
theorem d32_4 : decode jdk_31_method_5_code 4 = .ok (.ireturn, 1) := by decide +kernel
theorem d33_0 : decode jdk_65_method_157_code 0 = .ok (.aload_n 0, 1) := by decide +kernel
theorem d33_1 : decode jdk_65_method_157_code 1 = .ok (.ifnonnull 5, 3) := by decide +kernel
theorem d33_6 : decode jdk_65_method_157_code 6 = .ok (.iconst 1, 1) := by decide +kernel
theorem d33_7 : decode jdk_65_method_157_code 7 = .ok (.istore_n 1, 1) := by decide +kernel
theorem d33_8 : decode jdk_65_method_157_code 8 = .ok (.aload_n 0, 1) := by decide +kernel
theorem d33_9 : decode jdk_65_method_157_code 9 = .ok (.astore_n 2, 1) := by decide +kernel
theorem d33_10 : decode jdk_65_method_157_code 10 = .ok (.aload_n 2, 1) := by decide +kernel
theorem d33_11 : decode jdk_65_method_157_code 11 = .ok (.arraylength, 1) := by decide +kernel
theorem d33_12 : decode jdk_65_method_157_code 12 = .ok (.istore_n 3, 1) := by decide +kernel
theorem d33_13 : decode jdk_65_method_157_code 13 = .ok (.iconst 0, 1) := by decide +kernel
theorem d33_14 : decode jdk_65_method_157_code 14 = .ok (.istore 4, 2) := by decide +kernel
theorem d33_16 : decode jdk_65_method_157_code 16 = .ok (.iload 4, 2) := by decide +kernel
theorem d33_18 : decode jdk_65_method_157_code 18 = .ok (.iload_n 3, 1) := by decide +kernel
theorem d33_19 : decode jdk_65_method_157_code 19 = .ok (.if_icmp .ge 35, 3) := by decide +kernel
theorem d33_22 : decode jdk_65_method_157_code 22 = .ok (.aload_n 2, 1) := by decide +kernel
theorem d33_23 : decode jdk_65_method_157_code 23 = .ok (.iload 4, 2) := by decide +kernel
theorem d33_25 : decode jdk_65_method_157_code 25 = .ok (.aaload, 1) := by decide +kernel
theorem d33_26 : decode jdk_65_method_157_code 26 = .ok (.astore 5, 2) := by decide +kernel
theorem d33_28 : decode jdk_65_method_157_code 28 = .ok (.bipush 31, 2) := by decide +kernel
theorem d33_30 : decode jdk_65_method_157_code 30 = .ok (.iload_n 1, 1) := by decide +kernel
theorem d33_31 : decode jdk_65_method_157_code 31 = .ok (.imul, 1) := by decide +kernel
theorem d33_32 : decode jdk_65_method_157_code 32 = .ok (.aload 5, 2) := by decide +kernel
theorem d33_34 : decode jdk_65_method_157_code 34 = .ok (.ifnonnull 7, 3) := by decide +kernel
theorem d33_41 : decode jdk_65_method_157_code 41 = .ok (.aload 5, 2) := by decide +kernel
theorem d33_43 : decode jdk_65_method_157_code 43 = .ok (.invokevirtual 383, 3) := by decide +kernel
theorem d33_46 : decode jdk_65_method_157_code 46 = .ok (.iadd, 1) := by decide +kernel
theorem d33_47 : decode jdk_65_method_157_code 47 = .ok (.istore_n 1, 1) := by decide +kernel
theorem d33_48 : decode jdk_65_method_157_code 48 = .ok (.iinc 4 1, 3) := by decide +kernel
theorem d33_51 : decode jdk_65_method_157_code 51 = .ok (.goto (-35), 3) := by decide +kernel
theorem d33_54 : decode jdk_65_method_157_code 54 = .ok (.iload_n 1, 1) := by decide +kernel
theorem d33_55 : decode jdk_65_method_157_code 55 = .ok (.ireturn, 1) := by decide +kernel
theorem d34_0 : decode jdk_42_method_78_code 0 = .ok (.aload_n 0, 1) := by decide +kernel
theorem d34_1 : decode jdk_42_method_78_code 1 = .ok (.getfield 19, 3) := by decide +kernel
theorem d34_4 : decode jdk_42_method_78_code 4 = .ok (.istore_n 1, 1) := by decide +kernel
theorem d34_5 : decode jdk_42_method_78_code 5 = .ok (.iload_n 1, 1) := by decide +kernel
theorem d34_6 : decode jdk_42_method_78_code 6 = .ok (.ifCond .ne 52, 3) := by decide +kernel
theorem d34_9 : decode jdk_42_method_78_code 9 = .ok (.aload_n 0, 1) := by decide +kernel
theorem d34_10 : decode jdk_42_method_78_code 10 = .ok (.getfield 23, 3) := by decide +kernel
theorem d34_13 : decode jdk_42_method_78_code 13 = .ok (.ifCond .ne 45, 3) := by decide +kernel
theorem d34_16 : decode jdk_42_method_78_code 16 = .ok (.aload_n 0, 1) := by decide +kernel
theorem d34_17 : decode jdk_42_method_78_code 17 = .ok (.invokevirtual 492, 3) := by decide +kernel
theorem d34_20 : decode jdk_42_method_78_code 20 = .ok (.ifCond .eq 13, 3) := by decide +kernel
theorem d34_23 : decode jdk_42_method_78_code 23 = .ok (.aload_n 0, 1) := by decide +kernel
theorem d34_24 : decode jdk_42_method_78_code 24 = .ok (.getfield 9, 3) := by decide +kernel
theorem d34_27 : decode jdk_42_method_78_code 27 = .ok (.invokestatic 628, 3) := by decide +kernel
theorem d34_30 : decode jdk_42_method_78_code 30 = .ok (.goto 10, 3) := by decide +kernel
theorem d34_40 : decode jdk_42_method_78_code 40 = .ok (.istore_n 1, 1) := by decide +kernel
theorem d34_41 : decode jdk_42_method_78_code 41 = .ok (.iload_n 1, 1) := by decide +kernel
theorem d34_42 : decode jdk_42_method_78_code 42 = .ok (.ifCond .ne 11, 3) := by decide +kernel
theorem d34_45 : decode jdk_42_method_78_code 45 = .ok (.aload_n 0, 1) := by decide +kernel
theorem d34_46 : decode jdk_42_method_78_code 46 = .ok (.iconst 1, 1) := by decide +kernel
theorem d34_47 : decode jdk_42_method_78_code 47 = .ok (.putfield 23, 3) := by decide +kernel
theorem d34_50 : decode jdk_42_method_78_code 50 = .ok (.goto 8, 3) := by decide +kernel
theorem d34_53 : decode jdk_42_method_78_code 53 = .ok (.aload_n 0, 1) := by decide +kernel
theorem d34_54 : decode jdk_42_method_78_code 54 = .ok (.iload_n 1, 1) := by decide +kernel
theorem d34_55 : decode jdk_42_method_78_code 55 = .ok (.putfield 19, 3) := by decide +kernel
theorem d34_58 : decode jdk_42_method_78_code 58 = .ok (.iload_n 1, 1) := by decide +kernel
theorem d34_59 : decode jdk_42_method_78_code 59 = .ok (.ireturn, 1) := by decide +kernel
theorem d35_0 : decode jdk_42_method_154_code 0 = .ok (.getstatic 38, 3) := by decide +kernel
theorem d35_3 : decode jdk_42_method_154_code 3 = .ok (.ifCond .eq 14, 3) := by decide +kernel
theorem d35_6 : decode jdk_42_method_154_code 6 = .ok (.aload_n 0, 1) := by decide +kernel
theorem d35_7 : decode jdk_42_method_154_code 7 = .ok (.getfield 15, 3) := by decide +kernel
theorem d35_10 : decode jdk_42_method_154_code 10 = .ok (.ifCond .ne 7, 3) := by decide +kernel
theorem d35_13 : decode jdk_42_method_154_code 13 = .ok (.iconst 1, 1) := by decide +kernel
theorem d35_14 : decode jdk_42_method_154_code 14 = .ok (.goto 4, 3) := by decide +kernel
theorem d35_18 : decode jdk_42_method_154_code 18 = .ok (.ireturn, 1) := by decide +kernel
theorem d36_0 : decode jdk_43_method_21_code 0 = .ok (.aload_n 0, 1) := by decide +kernel
theorem d36_1 : decode jdk_43_method_21_code 1 = .ok (.arraylength, 1) := by decide +kernel
theorem d36_2 : decode jdk_43_method_21_code 2 = .ok (.lookupswitch 40 #[(0, 26), (1, 30)], 26) := by decide +kernel
theorem d36_32 : decode jdk_43_method_21_code 32 = .ok (.aload_n 0, 1) := by decide +kernel
theorem d36_33 : decode jdk_43_method_21_code 33 = .ok (.iconst 0, 1) := by decide +kernel
theorem d36_34 : decode jdk_43_method_21_code 34 = .ok (.baload, 1) := by decide +kernel
theorem d36_35 : decode jdk_43_method_21_code 35 = .ok (.sipush 255, 3) := by decide +kernel
theorem d36_38 : decode jdk_43_method_21_code 38 = .ok (.iand, 1) := by decide +kernel
theorem d36_39 : decode jdk_43_method_21_code 39 = .ok (.goto 12, 3) := by decide +kernel
theorem d36_42 : decode jdk_43_method_21_code 42 = .ok (.aload_n 0, 1) := by decide +kernel
theorem d36_43 : decode jdk_43_method_21_code 43 = .ok (.iconst 0, 1) := by decide +kernel
theorem d36_44 : decode jdk_43_method_21_code 44 = .ok (.aload_n 0, 1) := by decide +kernel
theorem d36_45 : decode jdk_43_method_21_code 45 = .ok (.arraylength, 1) := by decide +kernel
theorem d36_46 : decode jdk_43_method_21_code 46 = .ok (.iconst 0, 1) := by decide +kernel
theorem d36_47 : decode jdk_43_method_21_code 47 = .ok (.iconst 4, 1) := by decide +kernel
theorem d36_48 : decode jdk_43_method_21_code 48 = .ok (.invokestatic 84, 3) := by decide +kernel
theorem d36_51 : decode jdk_43_method_21_code 51 = .ok (.ireturn, 1) := by decide +kernel
theorem d37_0 : decode prog_13_method_5_code 0 = .ok (.aload_n 1, 1) := by decide +kernel
theorem d37_1 : decode prog_13_method_5_code 1 = .ok (.instanceof 31, 3) := by decide +kernel
theorem d37_4 : decode prog_13_method_5_code 4 = .ok (.ifCond .eq 40, 3) := by decide +kernel
theorem d37_7 : decode prog_13_method_5_code 7 = .ok (.aload_n 1, 1) := by decide +kernel
theorem d37_8 : decode prog_13_method_5_code 8 = .ok (.checkcast 31, 3) := by decide +kernel
theorem d37_11 : decode prog_13_method_5_code 11 = .ok (.astore_n 2, 1) := by decide +kernel
theorem d37_12 : decode prog_13_method_5_code 12 = .ok (.aload_n 0, 1) := by decide +kernel
theorem d37_13 : decode prog_13_method_5_code 13 = .ok (.getfield 30, 3) := by decide +kernel
theorem d37_16 : decode prog_13_method_5_code 16 = .ok (.aload_n 2, 1) := by decide +kernel
theorem d37_17 : decode prog_13_method_5_code 17 = .ok (.getfield 30, 3) := by decide +kernel
theorem d37_20 : decode prog_13_method_5_code 20 = .ok (.invokevirtual 82, 3) := by decide +kernel
theorem d37_23 : decode prog_13_method_5_code 23 = .ok (.ifCond .eq 21, 3) := by decide +kernel
theorem d37_26 : decode prog_13_method_5_code 26 = .ok (.aload_n 0, 1) := by decide +kernel
theorem d37_27 : decode prog_13_method_5_code 27 = .ok (.getfield 35, 3) := by decide +kernel
theorem d37_30 : decode prog_13_method_5_code 30 = .ok (.aload_n 2, 1) := by decide +kernel
theorem d37_31 : decode prog_13_method_5_code 31 = .ok (.getfield 35, 3) := by decide +kernel
theorem d37_34 : decode prog_13_method_5_code 34 = .ok (.invokevirtual 82, 3) := by decide +kernel
theorem d37_37 : decode prog_13_method_5_code 37 = .ok (.ifCond .eq 7, 3) := by decide +kernel
theorem d37_40 : decode prog_13_method_5_code 40 = .ok (.iconst 1, 1) := by decide +kernel
theorem d37_41 : decode prog_13_method_5_code 41 = .ok (.goto 4, 3) := by decide +kernel
theorem d37_44 : decode prog_13_method_5_code 44 = .ok (.iconst 0, 1) := by decide +kernel
theorem d37_45 : decode prog_13_method_5_code 45 = .ok (.ireturn, 1) := by decide +kernel
theorem d38_0 : decode jdk_42_method_66_code 0 = .ok (.aload_n 0, 1) := by decide +kernel
theorem d38_1 : decode jdk_42_method_66_code 1 = .ok (.aload_n 1, 1) := by decide +kernel
theorem d38_2 : decode jdk_42_method_66_code 2 = .ok (.if_acmp .ne 5, 3) := by decide +kernel
theorem d38_5 : decode jdk_42_method_66_code 5 = .ok (.iconst 1, 1) := by decide +kernel
theorem d38_6 : decode jdk_42_method_66_code 6 = .ok (.ireturn, 1) := by decide +kernel
theorem d38_7 : decode jdk_42_method_66_code 7 = .ok (.aload_n 1, 1) := by decide +kernel
theorem d38_8 : decode jdk_42_method_66_code 8 = .ok (.instanceof 10, 3) := by decide +kernel
theorem d38_11 : decode jdk_42_method_66_code 11 = .ok (.ifCond .eq 43, 3) := by decide +kernel
theorem d38_14 : decode jdk_42_method_66_code 14 = .ok (.aload_n 1, 1) := by decide +kernel
theorem d38_15 : decode jdk_42_method_66_code 15 = .ok (.checkcast 10, 3) := by decide +kernel
theorem d38_18 : decode jdk_42_method_66_code 18 = .ok (.astore_n 2, 1) := by decide +kernel
theorem d38_19 : decode jdk_42_method_66_code 19 = .ok (.getstatic 38, 3) := by decide +kernel
theorem d38_22 : decode jdk_42_method_66_code 22 = .ok (.ifCond .eq 14, 3) := by decide +kernel
theorem d38_25 : decode jdk_42_method_66_code 25 = .ok (.aload_n 0, 1) := by decide +kernel
theorem d38_26 : decode jdk_42_method_66_code 26 = .ok (.getfield 15, 3) := by decide +kernel
theorem d38_29 : decode jdk_42_method_66_code 29 = .ok (.aload_n 2, 1) := by decide +kernel
theorem d38_30 : decode jdk_42_method_66_code 30 = .ok (.getfield 15, 3) := by decide +kernel
theorem d38_33 : decode jdk_42_method_66_code 33 = .ok (.if_icmp .ne 21, 3) := by decide +kernel
theorem d38_36 : decode jdk_42_method_66_code 36 = .ok (.aload_n 0, 1) := by decide +kernel
theorem d38_37 : decode jdk_42_method_66_code 37 = .ok (.getfield 9, 3) := by decide +kernel
theorem d38_40 : decode jdk_42_method_66_code 40 = .ok (.aload_n 2, 1) := by decide +kernel
theorem d38_41 : decode jdk_42_method_66_code 41 = .ok (.getfield 9, 3) := by decide +kernel
theorem d38_44 : decode jdk_42_method_66_code 44 = .ok (.invokestatic 541, 3) := by decide +kernel
theorem d38_47 : decode jdk_42_method_66_code 47 = .ok (.ifCond .eq 7, 3) := by decide +kernel
theorem d38_50 : decode jdk_42_method_66_code 50 = .ok (.iconst 1, 1) := by decide +kernel
theorem d38_51 : decode jdk_42_method_66_code 51 = .ok (.goto 4, 3) := by decide +kernel
theorem d38_54 : decode jdk_42_method_66_code 54 = .ok (.iconst 0, 1) := by decide +kernel
theorem d38_55 : decode jdk_42_method_66_code 55 = .ok (.ireturn, 1) := by decide +kernel
theorem d39_0 : decode jdk_43_method_13_code 0 = .ok (.aload_n 0, 1) := by decide +kernel
theorem d39_1 : decode jdk_43_method_13_code 1 = .ok (.arraylength, 1) := by decide +kernel
theorem d39_2 : decode jdk_43_method_13_code 2 = .ok (.aload_n 1, 1) := by decide +kernel
theorem d39_3 : decode jdk_43_method_13_code 3 = .ok (.arraylength, 1) := by decide +kernel
theorem d39_4 : decode jdk_43_method_13_code 4 = .ok (.if_icmp .ne 30, 3) := by decide +kernel
theorem d39_7 : decode jdk_43_method_13_code 7 = .ok (.iconst 0, 1) := by decide +kernel
theorem d39_8 : decode jdk_43_method_13_code 8 = .ok (.istore_n 2, 1) := by decide +kernel
theorem d39_9 : decode jdk_43_method_13_code 9 = .ok (.iload_n 2, 1) := by decide +kernel
theorem d39_10 : decode jdk_43_method_13_code 10 = .ok (.aload_n 0, 1) := by decide +kernel
theorem d39_11 : decode jdk_43_method_13_code 11 = .ok (.arraylength, 1) := by decide +kernel
theorem d39_12 : decode jdk_43_method_13_code 12 = .ok (.if_icmp .ge 20, 3) := by decide +kernel
theorem d39_15 : decode jdk_43_method_13_code 15 = .ok (.aload_n 0, 1) := by decide +kernel
theorem d39_16 : decode jdk_43_method_13_code 16 = .ok (.iload_n 2, 1) := by decide +kernel
theorem d39_17 : decode jdk_43_method_13_code 17 = .ok (.baload, 1) := by decide +kernel
theorem d39_18 : decode jdk_43_method_13_code 18 = .ok (.aload_n 1, 1) := by decide +kernel
theorem d39_19 : decode jdk_43_method_13_code 19 = .ok (.iload_n 2, 1) := by decide +kernel
theorem d39_20 : decode jdk_43_method_13_code 20 = .ok (.baload, 1) := by decide +kernel
theorem d39_21 : decode jdk_43_method_13_code 21 = .ok (.if_icmp .eq 5, 3) := by decide +kernel
theorem d39_24 : decode jdk_43_method_13_code 24 = .ok (.iconst 0, 1) := by decide +kernel
theorem d39_25 : decode jdk_43_method_13_code 25 = .ok (.ireturn, 1) := by decide +kernel
theorem d39_26 : decode jdk_43_method_13_code 26 = .ok (.iinc 2 1, 3) := by decide +kernel
theorem d39_29 : decode jdk_43_method_13_code 29 = .ok (.goto (-20), 3) := by decide +kernel
theorem d39_32 : decode jdk_43_method_13_code 32 = .ok (.iconst 1, 1) := by decide +kernel
theorem d39_33 : decode jdk_43_method_13_code 33 = .ok (.ireturn, 1) := by decide +kernel
theorem d39_34 : decode jdk_43_method_13_code 34 = .ok (.iconst 0, 1) := by decide +kernel
theorem d39_35 : decode jdk_43_method_13_code 35 = .ok (.ireturn, 1) := by decide +kernel
theorem d40_0 : decode jdk_48_method_4_code 0 = .ok (.iload 4, 2) := by decide +kernel
theorem d40_2 : decode jdk_48_method_4_code 2 = .ok (.tableswitch 127 4 10 #[42, 55, 127, 127, 88, 101, 114], 42) := by decide +kernel
theorem d40_44 : decode jdk_48_method_4_code 44 = .ok (.iload_n 3, 1) := by decide +kernel
theorem d40_45 : decode jdk_48_method_4_code 45 = .ok (.aload_n 0, 1) := by decide +kernel
theorem d40_46 : decode jdk_48_method_4_code 46 = .ok (.checkcast 60, 3) := by decide +kernel
theorem d40_49 : decode jdk_48_method_4_code 49 = .ok (.iload_n 1, 1) := by decide +kernel
theorem d40_50 : decode jdk_48_method_4_code 50 = .ok (.iload_n 2, 1) := by decide +kernel
theorem d40_51 : decode jdk_48_method_4_code 51 = .ok (.invokestatic 62, 3) := by decide +kernel
theorem d40_54 : decode jdk_48_method_4_code 54 = .ok (.goto 103, 3) := by decide +kernel
theorem d40_157 : decode jdk_48_method_4_code 157 = .ok (.ireturn, 1) := by decide +kernel
theorem d41_0 : decode jdk_48_method_5_code 0 = .ok (.iload_n 2, 1) := by decide +kernel
theorem d41_1 : decode jdk_48_method_5_code 1 = .ok (.iload_n 3, 1) := by decide +kernel
theorem d41_2 : decode jdk_48_method_5_code 2 = .ok (.iadd, 1) := by decide +kernel
theorem d41_3 : decode jdk_48_method_5_code 3 = .ok (.istore 4, 2) := by decide +kernel
theorem d41_5 : decode jdk_48_method_5_code 5 = .ok (.iload_n 2, 1) := by decide +kernel
theorem d41_6 : decode jdk_48_method_5_code 6 = .ok (.istore 5, 2) := by decide +kernel
theorem d41_8 : decode jdk_48_method_5_code 8 = .ok (.iload 5, 2) := by decide +kernel
theorem d41_10 : decode jdk_48_method_5_code 10 = .ok (.iload 4, 2) := by decide +kernel
theorem d41_12 : decode jdk_48_method_5_code 12 = .ok (.if_icmp .ge 23, 3) := by decide +kernel
theorem d41_15 : decode jdk_48_method_5_code 15 = .ok (.bipush 31, 2) := by decide +kernel
theorem d41_17 : decode jdk_48_method_5_code 17 = .ok (.iload_n 0, 1) := by decide +kernel
theorem d41_18 : decode jdk_48_method_5_code 18 = .ok (.imul, 1) := by decide +kernel
theorem d41_19 : decode jdk_48_method_5_code 19 = .ok (.aload_n 1, 1) := by decide +kernel
theorem d41_20 : decode jdk_48_method_5_code 20 = .ok (.iload 5, 2) := by decide +kernel
theorem d41_22 : decode jdk_48_method_5_code 22 = .ok (.baload, 1) := by decide +kernel
theorem d41_23 : decode jdk_48_method_5_code 23 = .ok (.sipush 255, 3) := by decide +kernel
theorem d41_26 : decode jdk_48_method_5_code 26 = .ok (.iand, 1) := by decide +kernel
theorem d41_27 : decode jdk_48_method_5_code 27 = .ok (.iadd, 1) := by decide +kernel
theorem d41_28 : decode jdk_48_method_5_code 28 = .ok (.istore_n 0, 1) := by decide +kernel
theorem d41_29 : decode jdk_48_method_5_code 29 = .ok (.iinc 5 1, 3) := by decide +kernel
theorem d41_32 : decode jdk_48_method_5_code 32 = .ok (.goto (-24), 3) := by decide +kernel
theorem d41_35 : decode jdk_48_method_5_code 35 = .ok (.iload_n 0, 1) := by decide +kernel
theorem d41_36 : decode jdk_48_method_5_code 36 = .ok (.ireturn, 1) := by decide +kernel
theorem pd0 : parseMethodDescriptor "([CI[BII)I" = some ⟨[(.array .char), .int, (.array .byte), .int, .int], some .int⟩ := by decide +kernel
theorem pd1 : parseMethodDescriptor "([CII)[B" = some ⟨[(.array .char), .int, .int], some (.array .byte)⟩ := by decide +kernel
theorem pd2 : parseMethodDescriptor "([BI)B" = some ⟨[(.array .byte), .int], some .byte⟩ := by decide +kernel
theorem pd3 : parseMethodDescriptor "([CIILjava/lang/Void;)V" = some ⟨[(.array .char), .int, .int, (.object "java/lang/Void")], none⟩ := by decide +kernel
theorem pd4 : parseMethodDescriptor "([B[B)Z" = some ⟨[(.array .byte), (.array .byte)], some .boolean⟩ := by decide +kernel
theorem pd5 : parseMethodDescriptor "()B" = some ⟨[], some .byte⟩ := by decide +kernel
theorem pd6 : parseMethodDescriptor "(I)V" = some ⟨[.int], none⟩ := by decide +kernel
theorem pd7 : parseMethodDescriptor "(Ljava/lang/String;)V" = some ⟨[(.object "java/lang/String")], none⟩ := by decide +kernel
theorem pd8 : parseMethodDescriptor "([BIB)V" = some ⟨[(.array .byte), .int, .byte], none⟩ := by decide +kernel
theorem pd9 : parseMethodDescriptor "()I" = some ⟨[], some .int⟩ := by decide +kernel
theorem pd10 : parseMethodDescriptor "(ILjava/lang/String;)V" = some ⟨[.int, (.object "java/lang/String")], none⟩ := by decide +kernel
theorem pd11 : parseMethodDescriptor "(Ljava/lang/String;)Ljava/lang/AbstractStringBuilder;" = some ⟨[(.object "java/lang/String")], some (.object "java/lang/AbstractStringBuilder")⟩ := by decide +kernel
theorem pd12 : parseMethodDescriptor "(II)V" = some ⟨[.int, .int], none⟩ := by decide +kernel
theorem pd13 : parseMethodDescriptor "(II)I" = some ⟨[.int, .int], some .int⟩ := by decide +kernel
theorem pd14 : parseMethodDescriptor "([BII)[B" = some ⟨[(.array .byte), .int, .int], some (.array .byte)⟩ := by decide +kernel
theorem pd15 : parseMethodDescriptor "()[B" = some ⟨[], some (.array .byte)⟩ := by decide +kernel
theorem pd16 : parseMethodDescriptor "()Z" = some ⟨[], some .boolean⟩ := by decide +kernel
theorem pd17 : parseMethodDescriptor "(Ljava/lang/AbstractStringBuilder;Ljava/lang/Void;)V" = some ⟨[(.object "java/lang/AbstractStringBuilder"), (.object "java/lang/Void")], none⟩ := by decide +kernel
theorem pd18 : parseMethodDescriptor "(Ljava/lang/StringBuilder;)V" = some ⟨[(.object "java/lang/StringBuilder")], none⟩ := by decide +kernel
theorem pd19 : parseMethodDescriptor "([C)V" = some ⟨[(.array .char)], none⟩ := by decide +kernel
theorem pd20 : parseMethodDescriptor "(I[BII)I" = some ⟨[.int, (.array .byte), .int, .int], some .int⟩ := by decide +kernel
theorem pd21 : parseMethodDescriptor "(Ljava/lang/Object;IIII)I" = some ⟨[(.object "java/lang/Object"), .int, .int, .int, .int], some .int⟩ := by decide +kernel
theorem pd22 : parseMethodDescriptor "([B)I" = some ⟨[(.array .byte)], some .int⟩ := by decide +kernel
theorem pd23 : parseMethodDescriptor "([Ljava/lang/Object;)I" = some ⟨[(.array (.object "java/lang/Object"))], some .int⟩ := by decide +kernel
theorem pd24 : parseMethodDescriptor "(Ljava/lang/Object;Ljava/lang/String;)Ljava/lang/Object;" = some ⟨[(.object "java/lang/Object"), (.object "java/lang/String")], some (.object "java/lang/Object")⟩ := by decide +kernel
theorem pd25 : parseMethodDescriptor "()V" = some ⟨[], none⟩ := by decide +kernel
theorem pd26 : parseMethodDescriptor "(Ljava/lang/String;)Ljava/lang/StringBuilder;" = some ⟨[(.object "java/lang/String")], some (.object "java/lang/StringBuilder")⟩ := by decide +kernel
theorem pd27 : parseMethodDescriptor "()Ljava/lang/String;" = some ⟨[], some (.object "java/lang/String")⟩ := by decide +kernel
theorem pd28 : parseMethodDescriptor "(Ljava/lang/Object;)Z" = some ⟨[(.object "java/lang/Object")], some .boolean⟩ := by decide +kernel
theorem pd29 : parseMethodDescriptor "(III)Ljava/lang/String;" = some ⟨[.int, .int, .int], some (.object "java/lang/String")⟩ := by decide +kernel
theorem pd30 : parseMethodDescriptor "(Ljava/lang/String;Ljava/lang/String;)V" = some ⟨[(.object "java/lang/String"), (.object "java/lang/String")], none⟩ := by decide +kernel

/-- a String of n chars, each 0 to 255: its byte array at b spells them -/
def Str (Z : State) (h : Heap) (s b : Addr) (k : ClassId) (n : Nat) (f : Nat → Int32) : Prop :=
  Exa Z h s "java/lang/String" ∧ Fld Z h s "java/lang/String" "coder" "B" (.int 0) ∧ Fld Z h s "java/lang/String" "value" "[B" (.ref b) ∧ Arf Z h b k .byte n (fun i => .int (f i))
section StrS
variable {Z : State} {h h' : Heap} {s b a : Addr} {k : ClassId} {n sl : Nat} {f : Nat → Int32} {v : Value} {ws : List Addr}
theorem Str.ext (F : Str Z h s b k n f) (E : Ext h h') : Str Z h' s b k n f := ⟨F.1.ext E, F.2.1.ext E, F.2.2.1.ext E, F.2.2.2.ext E⟩
theorem Str.other (F : Str Z h s b k n f) (W : Wr h h' a sl v) (q : s ≠ a) (q' : b ≠ a) : Str Z h' s b k n f := ⟨F.1.wr W, F.2.1.other W (Or.inl q), F.2.2.1.other W (Or.inl q), F.2.2.2.other W q'⟩
theorem Str.keep (F : Str Z h s b k n f) (K : Keep h h' ws) (q : s ∉ ws) (q' : b ∉ ws) : Str Z h' s b k n f := ⟨F.1.keep K, F.2.1.keep K q, F.2.2.1.keep K q, F.2.2.2.keep K q'⟩
theorem Str.lt (F : Str Z h s b k n f) : s < h.size := F.1.lt
theorem Str.lt' (F : Str Z h s b k n f) : b < h.size := F.2.2.2.lt
end StrS
theorem step_set {α : Type} {g : Nat → α} {f : Nat → α} (x : Nat) (j : Int) (h : 0 ≤ j) : (if x = j.toNat then f j.toNat else if x < j.toNat then f x else g x) = if x < (j + 1).toNat then f x else g x := by
  rcases Nat.lt_trichotomy x j.toNat with q | q | q
  · rw [if_neg (by omega), if_pos q, if_pos (by omega)]
  · rw [if_pos q, if_pos (by omega), q]
  · rw [if_neg (by omega), if_neg (by omega), if_neg (by omega)]
theorem byte_inj {x y : Int32} (h1 : 0 ≤ x.toInt) (h2 : x.toInt ≤ 255) (h3 : 0 ≤ y.toInt) (h4 : y.toInt ≤ 255) (e : x.toInt8.toInt32 = y.toInt8.toInt32) : x = y := by
  have a := c_i2b x; have b := c_i2b y; rw [e] at a; exact of_toInt (by omega)

theorem shr0 (z : Int32) : z >>> ((0 : Int32) &&& 31) = z := of_toInt (by rw [c_ishr z 0 0 (by decide)]; simp)
theorem chr_of (b : Int32) : ((b &&& 255).toUInt32.toUInt16.toUInt32.toInt32).toInt = b.toInt % 256 := by
  have h1 := c_mask b 255 8 (by decide) (by decide)
  have h2 := c_i2c (b &&& 255)
  omega
theorem nr_char {r : Int32} (h1 : 0 ≤ r.toInt) (h2 : r.toInt < 65536) : narrow .char (.int r) = .int r := congrArg Value.int (of_toInt (by have := c_i2c r; omega))
theorem nr_i2c (x : Int32) : narrow .char (.int (x.toUInt32.toUInt16.toUInt32.toInt32)) = .int (x.toUInt32.toUInt16.toUInt32.toInt32) := nr_char (c_i2c x).2.1 (c_i2c x).2.2
theorem chr_byte {x : Int32} (h1 : 0 ≤ x.toInt) (h2 : x.toInt ≤ 255) : (x.toInt8.toInt32).toInt % 256 = x.toInt := by have := c_i2b x; omega
theorem s_isRef {s : State} {args : Array Value} {CC n d : String} (h0 : (Cond.initializedFor CC n d).before args s = true) (h1 : (Cond.isRef (Term.static CC n d)).before args s = true) : ∃ v : Value, Sta s s.heap CC n d v ∧ v.isRef = true := by
  obtain ⟨x, ev, hr⟩ := Cond.isRef_spec h1
  exact ⟨x, Sta.start ev (Or.inl h0), hr⟩

def own2 (c0 c1 : Int32) (i : Nat) : Int32 := if i = 0 then c0 else c1
theorem own2_rng {c0 c1 : Int32} (h0 : 0 ≤ c0.toInt ∧ c0.toInt ≤ 255) (h1 : 0 ≤ c1.toInt ∧ c1.toInt ≤ 255) (i : Nat) : 0 ≤ (own2 c0 c1 i).toInt ∧ (own2 c0 c1 i).toInt ≤ 255 := by unfold own2; split; exact h0; exact h1
theorem i2c_id {x : Int32} (h : 0 ≤ x.toInt ∧ x.toInt ≤ 255) : x.toUInt32.toUInt16.toUInt32.toInt32 = x := of_toInt (by have := c_i2c x; omega)
theorem nar_char {r : Int32} (h : 0 ≤ r.toInt ∧ r.toInt ≤ 255) : nar .char r = r := by
  have := c_i2c r; exact of_toInt (by simp only [nar]; omega)
def SM (n m : Nat) (c0 c1 e0 e1 : Int32) : Prop := n = m ∧ ∀ i, i < n → (own2 c0 c1 i).toInt8.toInt32 = (own2 e0 e1 i).toInt8.toInt32
theorem SM.symm {n m : Nat} {c0 c1 e0 e1 : Int32} (h : SM n m c0 c1 e0 e1) : SM m n e0 e1 c0 c1 := ⟨h.1.symm, fun i hi => (h.2 i (by rw [h.1]; exact hi)).symm⟩
theorem same_iff {n m : Nat} {c0 c1 e0 e1 : Int32} (hn : n ≤ 2) (h0 : 0 ≤ c0.toInt ∧ c0.toInt ≤ 255) (h1 : 0 ≤ c1.toInt ∧ c1.toInt ≤ 255) (g0 : 0 ≤ e0.toInt ∧ e0.toInt ≤ 255) (g1 : 0 ≤ e1.toInt ∧ e1.toInt ≤ 255) : SM n m c0 c1 e0 e1 ↔ n = m ∧ (n < 1 ∨ c0 = e0) ∧ (n < 2 ∨ c1 = e1) := by
  constructor
  · rintro ⟨rfl, h⟩
    refine ⟨rfl, ?_, ?_⟩
    · rcases Nat.lt_or_ge n 1 with q | q
      · exact Or.inl q
      · exact Or.inr (byte_inj h0.1 h0.2 g0.1 g0.2 (h 0 (by omega)))
    · rcases Nat.lt_or_ge n 2 with q | q
      · exact Or.inl q
      · exact Or.inr (byte_inj h1.1 h1.2 g1.1 g1.2 (h 1 (by omega)))
  · rintro ⟨rfl, a, b⟩
    refine ⟨rfl, fun i hi => ?_⟩
    rcases (by omega : i = 0 ∨ i = 1) with rfl | rfl
    · rw [show own2 c0 c1 0 = own2 e0 e1 0 from a.elim (fun q => by omega) id]
    · rw [show own2 c0 c1 1 = own2 e0 e1 1 from b.elim (fun q => by omega) id]
theorem eq_sm {P : Prop} {r s : Int32} (hr : r = 0 ∨ r = 1) (hi : r = 1 ↔ P) (hs : (s = 1 ∧ P) ∨ (s = 0 ∧ ¬ P)) : r = s := by
  rcases hs with ⟨rfl, p⟩ | ⟨rfl, p⟩
  · exact hi.mpr p
  · exact hr.resolve_right fun q => p (hi.mp q)

theorem noInst2 {Z : State} {a0 : Array Value} {CC MM KK : String} {n : Nat} (w : (Cond.superclass CC MM).before a0 Z = true) (w2 : (Cond.superclass MM "java/lang/Object").before a0 Z = true) (wo : (Cond.noSuperclass "java/lang/Object").before a0 Z = true) (wi : (Cond.instantiable KK n).before a0 Z = true) (h1 : CC ≠ KK) (h3 : MM ≠ KK) (h2 : "java/lang/Object" ≠ KK) : ∃ c t, Z.vm.findClass CC = some c ∧ Z.vm.findClass KK = some t ∧ Z.vm.assignable c t = false := by
  obtain ⟨t, kt, g0, g1, g2, gr⟩ := Cond.instantiable_spec wi
  have gi : kt.isInterface = false := by have := gr.1; simp at this; exact this.1
  obtain ⟨o, ko, o1, o2, o3, -⟩ := Cond.noSuperclass_spec wo
  obtain ⟨c, h0⟩ := found_sup w
  obtain ⟨p, k, kp, q1, q2, q3, q4, q5, -, q7⟩ := Cond.superclass_spec h0 w
  obtain ⟨p', k', kp', s1, s2, s3, s4, s5, -, s7⟩ := Cond.superclass_spec q1 w2
  cases o1.symm.trans s1
  have ne1 := ids_ne h0 g0 h1
  have ne2 := ids_ne o1 g0 h2
  have ne3 := ids_ne q1 g0 h3
  have n3 : ∀ fuel, Z.vm.isSubclassAux fuel c t = false := fun fuel => by
    cases fuel with
    | zero => rfl
    | succ f =>
      have n2 : Z.vm.isSubclassAux f p t = false := by
        cases f with
        | zero => rfl
        | succ f =>
          have n1 : Z.vm.isSubclassAux f o t = false := by
            cases f with
            | zero => rfl
            | succ f => simp [Vm.isSubclassAux, ne2, o2, o3]
          simp [Vm.isSubclassAux, ne3, s2, s4, n1]
      simp [Vm.isSubclassAux, ne1, q2, q4, n2]
  refine ⟨c, t, h0, g0, ?_⟩
  show Z.vm.assignableAux (255 + 1) c t = false
  simp [Vm.assignableAux, ne1, q2, g1, q5, g2, gi, Vm.isSubclass, n3]

theorem pn_6 : plainFor (⟨"java/lang/StringUTF16", "compress", "([CI[BII)I"⟩ : MethodName) = true := plainFor_of_name (by first | (simp [plainName, overriddenIn]; done) | decide +kernel)
set_option maxRecDepth 65536 in
set_option maxHeartbeats 40000000 in
theorem str_cmp1 {Z : State} {a0 : Array Value} (hw : HW a0 Z) (a b : Addr) (ka kb : ClassId) (n : Nat) (z : Int32) (c : Nat → Int32) (g : Nat → Value) (h0 : Heap) (n0 : Nat) (sf0 : List Addr) (hz : z.toInt = n) (A : Arf Z h0 a ka .char n (fun i => .int (c i))) (B : Arf Z h0 b kb .byte n g) (ne_a_b : a ≠ b) (gm_b : n0 ≤ b ∧ b ∈ sf0) (hc : ∀ i, i < n → 0 ≤ (c i).toInt ∧ (c i).toInt ≤ 255) :
    MetW Z consts_1 sf0 (⟨"java/lang/StringUTF16", "compress", "([CI[BII)I"⟩ : MethodName) jdk_52_method_21_code 7 (some .int) [] ({ frames := 0, cells := 0, slots := 0, locals := 0 } : Room) #[(.ref a), (.int (0 : Int32)), (.ref b), (.int (0 : Int32)), (.int z)] h0 n0 (fun v h sf => v = some (.int z) ∧ Keep h0 h [b] ∧ Arf Z h b kb .byte n (fun i => .int (c i).toInt8.toInt32)) := by
  refine k_body (hEW hw) (f := (fun m => mkF m 0 #[.val (.ref a), .val (.int (0 : Int32)), .val (.ref b), .val (.int (0 : Int32)), .val (.int z), .unset, .unset] [])) pn_6 (fun m => by first | (simp [entryFrame, mkF, argsToLocals, Value.category, maxLocals]; done) | rfl) ?_
  intro Γ T G X
  have ge_b := gm_b.1
  show Go Γ n0 _ T (mkF Γ.m 0 #[.val (.ref a), .val (.int (0 : Int32)), .val (.ref b), .val (.int (0 : Int32)), .val (.int z), .unset, .unset] [])
  refine k_iconst G X d6_0 (pc' := 1) rfl (z := (0 : Int32)) (by decide) ?_
  refine k_istore G X d6_1 (pc' := 3) rfl (l' := #[.val (.ref a), .val (.int (0 : Int32)), .val (.ref b), .val (.int (0 : Int32)), .val (.int z), .val (.int (0 : Int32)), .unset]) rfl ?_
  have LOOP : ∀ (k : Nat) (T : State) (h1 : Heap) (i : Int32) (s6 : Slot), ((s6 = .unset ∨ ∃ w, s6 = .val w ∧ w.category = 1)) → (Arf Z h1 a ka .char n (fun i => .int (c i))) → (Arf Z h1 b kb .byte n (fun x => if x < i.toInt.toNat then .int (c x).toInt8.toInt32 else g x)) → (Keep h0 h1 [b]) → (0 ≤ i.toInt) → (i.toInt ≤ n) → n - i.toInt.toNat = k → W Γ n0 T h1 0 0 (sf0) → Go Γ n0 (fun v h sf => v = some (.int z) ∧ Keep h0 h [b] ∧ Arf Z h b kb .byte n (fun i => .int (c i).toInt8.toInt32)) T (mkF Γ.m 3 #[.val (.ref a), .val (.int i), .val (.ref b), .val (.int i), .val (.int z), .val (.int i), s6] []) := by
    intro k
    induction k using Nat.strongRecOn with
    | _ k ih =>
      intro T h1 i s6 h_s6 A B KP hi0 hin hk X
      refine k_iload G X d6_3 (pc' := 5) rfl rfl ?_
      refine k_iload G X d6_5 (pc' := 7) rfl rfl ?_
      refine k_icmp_ge G X d6_7 (pc' := 44) rfl (by decide) (pc'' := 10) rfl (fun c7 => ?_) (fun c7 => ?_)
      · refine k_iload G X d6_44 (pc' := 46) rfl rfl ?_
        refine k_reti G X d6_46 rfl ?_ (by decide) (by decide)
        refine ⟨rfl, KP, B.congr fun x hx => ?_⟩
        rw [if_pos (by omega)]
      · have hlt : i.toInt < n := by omega
        have hi1 : (i + (1 : Int32)).toInt = i.toInt + 1 := iadd_toInt (by rw [show (1 : Int32).toInt = 1 from rfl]; omega) (by rw [show (1 : Int32).toInt = 1 from rfl]; have := A.size_lt; omega)
        have hci := hc i.toInt.toNat (by omega)
        refine k_aloadN G X d6_10 (pc' := 11) rfl rfl rfl ?_
        refine k_iloadN G X d6_11 (pc' := 12) rfl rfl ?_
        refine k_caload G X (i := i.toInt.toNat) (v := (.int (c i.toInt.toNat))) A (by omega) (by omega) rfl d6_12 (pc' := 13) rfl ?_
        refine k_istoreS G X d6_13 (pc' := 15) rfl rfl h_s6 (l' := #[.val (.ref a), .val (.int i), .val (.ref b), .val (.int i), .val (.int z), .val (.int i), .val (.int (c i.toInt.toNat))]) rfl ?_
        refine k_iload G X d6_15 (pc' := 17) rfl rfl ?_
        refine k_sipush G X d6_17 (pc' := 20) rfl (z := (255 : Int32)) (by decide) ?_
        refine k_icmp_le G X d6_20 (pc' := 26) rfl (by decide) (pc'' := 23) rfl (fun c20 => ?_) (fun c20 => (absurd c20 (by rw [show (255 : Int32).toInt = 255 from rfl]; omega)))
        refine k_aloadN G X d6_26 (pc' := 27) rfl rfl rfl ?_
        refine k_iloadN G X d6_27 (pc' := 28) rfl rfl ?_
        refine k_iload G X d6_28 (pc' := 30) rfl rfl ?_
        refine k_i2b G X d6_30 (pc' := 31) rfl rfl ?_
        refine k_bastore G X (i := i.toInt.toNat) (z := (c i.toInt.toNat).toInt8.toInt32) B (by omega) (by omega) (by simp [nar]) ge_b (List.mem_append_right [] gm_b.2) d6_31 (pc' := 32) rfl (fun T h31 W31 B X => ?_)
        replace A := A.other W31 ne_a_b
        replace KP := KP.wr W31 (Or.inl (List.mem_of_getElem? (i := 0) rfl))
        refine k_iinc G X d6_32 (pc' := 35) rfl rfl (z := (i + (1 : Int32))) rfl (l' := #[.val (.ref a), .val (.int (i + (1 : Int32))), .val (.ref b), .val (.int i), .val (.int z), .val (.int i), .val (.int (c i.toInt.toNat))]) rfl ?_
        refine k_iinc G X d6_35 (pc' := 38) rfl rfl (z := (i + (1 : Int32))) rfl (l' := #[.val (.ref a), .val (.int (i + (1 : Int32))), .val (.ref b), .val (.int (i + (1 : Int32))), .val (.int z), .val (.int i), .val (.int (c i.toInt.toNat))]) rfl ?_
        refine k_iinc G X d6_38 (pc' := 41) rfl rfl (z := (i + (1 : Int32))) rfl (l' := #[.val (.ref a), .val (.int (i + (1 : Int32))), .val (.ref b), .val (.int (i + (1 : Int32))), .val (.int z), .val (.int (i + (1 : Int32))), .val (.int (c i.toInt.toNat))]) rfl ?_
        refine k_goto G X d6_41 (by decide) (pc' := 3) rfl ?_
        exact ih _ (by rw [hi1]; omega) T h31 (i + (1 : Int32)) (.val (.int (c i.toInt.toNat))) (Or.inr ⟨_, rfl, rfl⟩) A (B.congr fun x hx => by rw [hi1]; exact step_set (f := fun x => Value.int (c x).toInt8.toInt32) (g := g) x i.toInt hi0) KP (by omega) (by omega) rfl X
  exact LOOP _ T h0 (0 : Int32) (.unset) (Or.inl rfl) A (B.congr fun i _ => by simp [show (0 : Int32).toInt = 0 from rfl]) (Keep.refl h0 [b]) (by decide) (by rw [z32]; omega) rfl X
theorem pn_5 : plainFor (⟨"java/lang/StringUTF16", "compress", "([CII)[B"⟩ : MethodName) = true := plainFor_of_name (by first | (simp [plainName, overriddenIn]; done) | decide +kernel)
set_option maxRecDepth 65536 in
set_option maxHeartbeats 40000000 in
theorem str_cmp2 {Z : State} {a0 : Array Value} (hw : HW a0 Z) (a : Addr) (ka : ClassId) (n : Nat) (z : Int32) (c : Nat → Int32) (h0 : Heap) (n0 : Nat) (sf0 : List Addr) (hz : z.toInt = n) (hn : n ≤ 2) (A : Arf Z h0 a ka .char n (fun i => .int (c i))) (O : Old Z n0 h0) (hc : ∀ i, i < n → 0 ≤ (c i).toInt ∧ (c i).toInt ≤ 255) :
    MetW Z consts_1 sf0 (⟨"java/lang/StringUTF16", "compress", "([CII)[B"⟩ : MethodName) jdk_52_method_16_code 6 (some (.array .byte)) [] ({ frames := 1, cells := 1, slots := 2, locals := 18 } : Room) #[(.ref a), (.int (0 : Int32)), (.int z)] h0 n0 (fun v h sf => ∃ b kb, v = some (.ref b) ∧ h0.size ≤ b ∧ Keep h0 h [] ∧ Arf Z h b kb .byte n (fun i => .int (c i).toInt8.toInt32) ∧ Exa Z h b "[B") := by
  refine k_body (hEW hw) (f := (fun m => mkF m 0 #[.val (.ref a), .val (.int (0 : Int32)), .val (.int z), .unset, .unset, .unset] [])) pn_5 (fun m => by first | (simp [entryFrame, mkF, argsToLocals, Value.category, maxLocals]; done) | rfl) ?_
  intro Γ T G X
  have KP := Keep.refl h0 []
  show Go Γ n0 _ T (mkF Γ.m 0 #[.val (.ref a), .val (.int (0 : Int32)), .val (.int z), .unset, .unset, .unset] [])
  refine k_iloadN G X d5_0 (pc' := 1) rfl rfl ?_
  refine k_newPE G X (aty := .byte) (n := n) (cap := 2) (w23 hw) (ad := "[B") (by decide) d5_1 (pc' := 3) rfl hz hn (by decide) (by decide) (by decide) (fun T h1 b1 k1 s_b1 E1 A_b1 Y_b1 X => ?_)
  have ne_a_b1 : a ≠ b1 := Nat.ne_of_lt (Nat.lt_of_lt_of_eq A.lt s_b1)
  have ge_b1 : n0 ≤ b1 := Nat.le_trans (Jvm.OwnK.Old_le O) (Nat.le_of_eq s_b1)
  have sz_b1 : h0.size ≤ b1 := Nat.le_trans KP.1 (Nat.le_of_eq s_b1)
  replace A := A.ext E1
  replace O := O.ext E1
  replace KP := KP.ext E1
  replace A_b1 : Arf Z h1 b1 k1 .byte n (fun _ => (.int (0 : Int32))) := A_b1
  refine k_astoreN G X d5_3 (pc' := 4) rfl rfl (l' := #[.val (.ref a), .val (.int (0 : Int32)), .val (.int z), .val (.ref b1), .unset, .unset]) rfl ?_
  refine k_aloadN G X d5_4 (pc' := 5) rfl rfl rfl ?_
  refine k_iloadN G X d5_5 (pc' := 6) rfl rfl ?_
  refine k_aloadN G X d5_6 (pc' := 7) rfl rfl rfl ?_
  refine k_iconst G X d5_7 (pc' := 8) rfl (z := (0 : Int32)) (by decide) ?_
  refine k_iloadN G X d5_8 (pc' := 9) rfl rfl ?_
  refine k_callS G X (argsL := [(.ref a), (.int (0 : Int32)), (.ref b1), (.int (0 : Int32)), (.int z)]) (rest := []) rfl (w24 hw) (w25 hw) (w21 hw) (w26 hw) (by decide) (str_cmp1 hw a b1 ka k1 n z c _ h1 n0 _ hz A A_b1 ne_a_b1 ⟨ge_b1, (List.mem_of_getElem? (i := 0) rfl)⟩ hc) d5_9 pd0 rfl (pc' := 12) rfl rfl (wd := 0) rfl (by decide) (by decide) (by decide) (by decide) (fun T h9 v sf9 X q => ?_)
  replace X := W.drop X
  obtain ⟨rfl, K9, A_b1⟩ := q
  replace A := A.keep K9 (by simp only [List.mem_cons, List.not_mem_nil, or_false, not_or]; exact ne_a_b1)
  replace O := O.keep K9 (allS ge_b1 (all0))
  replace KP := KP.trans K9 (allS (Or.inr sz_b1) (all0))
  replace Y_b1 := Y_b1.keep K9
  show Go Γ n0 _ T (mkF Γ.m 12 #[.val (.ref a), .val (.int (0 : Int32)), .val (.int z), .val (.ref b1), .unset, .unset] [(.int z)])
  refine k_istore G X d5_12 (pc' := 14) rfl (l' := #[.val (.ref a), .val (.int (0 : Int32)), .val (.int z), .val (.ref b1), .val (.int z), .unset]) rfl ?_
  refine k_iload G X d5_14 (pc' := 16) rfl rfl ?_
  refine k_iloadN G X d5_16 (pc' := 17) rfl rfl ?_
  refine k_icmp_eq G X d5_17 (pc' := 57) rfl (by decide) (pc'' := 20) rfl (fun c17 => ?_) (fun c17 => (absurd c17 (by simp)))
  refine k_aloadN G X d5_57 (pc' := 58) rfl rfl rfl ?_
  refine k_reta G X d5_58 (t := (.array .byte)) rfl rfl rfl ?_ (by decide) (by decide)
  exact ⟨b1, k1, rfl, sz_b1, KP, A_b1, Y_b1⟩
theorem pn_7 : plainFor (⟨"java/lang/StringUTF16", "coderFromArrayLen", "([BI)B"⟩ : MethodName) = true := plainFor_of_name (by first | (simp [plainName, overriddenIn]; done) | decide +kernel)
set_option maxRecDepth 65536 in
set_option maxHeartbeats 40000000 in
theorem str_cod {Z : State} {a0 : Array Value} (hw : HW a0 Z) (b : Addr) (kb : ClassId) (n : Nat) (z : Int32) (f : Nat → Value) (h0 : Heap) (n0 : Nat) (sf0 : List Addr) (hz : z.toInt = n) (B : Arf Z h0 b kb .byte n f) :
    MetW Z consts_1 sf0 (⟨"java/lang/StringUTF16", "coderFromArrayLen", "([BI)B"⟩ : MethodName) jdk_52_method_15_code 2 (some .byte) [] ({ frames := 0, cells := 0, slots := 0, locals := 0 } : Room) #[(.ref b), (.int z)] h0 n0 (fun v h sf => v = some (.int 0) ∧ h = h0) := by
  refine k_body (hEW hw) (f := (fun m => mkF m 0 #[.val (.ref b), .val (.int z)] [])) pn_7 (fun m => by first | (simp [entryFrame, mkF, argsToLocals, Value.category, maxLocals]; done) | rfl) ?_
  intro Γ T G X
  show Go Γ n0 _ T (mkF Γ.m 0 #[.val (.ref b), .val (.int z)] [])
  refine k_iloadN G X d7_0 (pc' := 1) rfl rfl ?_
  refine k_aloadN G X d7_1 (pc' := 2) rfl rfl rfl ?_
  refine k_alen G X (z := z) B hz d7_2 (pc' := 3) rfl ?_
  refine k_isub G X d7_3 (pc' := 4) rfl rfl ?_
  rw [show z - z = (0 : Int32) from Int32.sub_self z]
  refine k_bipush G X d7_4 (pc' := 6) rfl (z := (31 : Int32)) (by decide) ?_
  refine k_iushr G X d7_6 (pc' := 7) rfl (z := (0 : Int32)) (by decide) ?_
  refine k_i2b G X d7_7 (pc' := 8) rfl (z := (0 : Int32)) (by decide) ?_
  refine k_retb G X d7_8 (t := .byte) rfl (by simp) rfl ?_ (by decide) (by decide)
  exact ⟨rfl, rfl⟩
theorem pn_3 : plainFor (⟨"java/lang/String", "<init>", "([CIILjava/lang/Void;)V"⟩ : MethodName) = true := plainFor_of_name (by first | (simp [plainName, overriddenIn]; done) | decide +kernel)
set_option maxRecDepth 65536 in
set_option maxHeartbeats 40000000 in
theorem str_init4 {Z : State} {a0 : Array Value} (hw : HW a0 Z) (s a : Addr) (ka : ClassId) (n : Nat) (z cs : Int32) (c : Nat → Int32) (h0 : Heap) (n0 : Nat) (sf0 : List Addr) (hz : z.toInt = n) (hn : n ≤ 2) (hn1 : 1 ≤ n) (E : Exa Z h0 s "java/lang/String") (FV : Fld Z h0 s "java/lang/String" "value" "[B" .null) (FC : Fld Z h0 s "java/lang/String" "coder" "B" (.int 0)) (A : Arf Z h0 a ka .char n (fun i => .int (c i))) (ne_s_a : s ≠ a) (gm_s : n0 ≤ s ∧ s ∈ sf0) (O : Old Z n0 h0) (S_CS : Sta Z h0 "java/lang/String" "COMPACT_STRINGS" "Z" (.int cs)) (hcs : cs ≠ 0) (hc : ∀ i, i < n → 0 ≤ (c i).toInt ∧ (c i).toInt ≤ 255) (FH : Fld Z h0 s "java/lang/String" "hash" "I" (.int 0)) (FZ : Fld Z h0 s "java/lang/String" "hashIsZero" "Z" (.int 0)) :
    MetW Z consts_1 sf0 (⟨"java/lang/String", "<init>", "([CIILjava/lang/Void;)V"⟩ : MethodName) jdk_42_method_149_code 6 none [] ({ frames := 2, cells := 1, slots := 2, locals := 37 } : Room) #[(.ref s), (.ref a), (.int (0 : Int32)), (.int z), .null] h0 n0 (fun v h sf => v = none ∧ Keep h0 h [s] ∧ ∃ b kb, h0.size ≤ b ∧ Str Z h s b kb n (fun i => (c i).toInt8.toInt32) ∧ Exa Z h b "[B" ∧ Fld Z h s "java/lang/String" "hash" "I" (.int 0) ∧ Fld Z h s "java/lang/String" "hashIsZero" "Z" (.int 0)) := by
  refine k_body (hEW hw) (f := (fun m => mkF m 0 #[.val (.ref s), .val (.ref a), .val (.int (0 : Int32)), .val (.int z), .val .null, .unset] [])) pn_3 (fun m => by first | (simp [entryFrame, mkF, argsToLocals, Value.category, maxLocals]; done) | rfl) ?_
  intro Γ T G X
  have ge_s := gm_s.1
  have KP := Keep.refl h0 [s]
  have E0 := E; have A0 := A
  show Go Γ n0 _ T (mkF Γ.m 0 #[.val (.ref s), .val (.ref a), .val (.int (0 : Int32)), .val (.int z), .val .null, .unset] [])
  refine k_aloadN G X d3_0 (pc' := 1) rfl rfl rfl ?_
  refine k_initO G X (w15 hw) (w16 hw) (w17 hw) d3_1 (pc' := 4) rfl rfl (by decide) (wd := 0) rfl (by decide) (fun T X => ?_)
  refine k_iloadN G X d3_4 (pc' := 5) rfl rfl ?_
  refine k_if_ne G X d3_5 (pc' := 27) rfl (by decide) (pc'' := 8) rfl (fun c5 => ?_) (fun c5 => (absurd c5 (by intro q; rw [q, z32] at hz; omega)))
  refine k_getS G X (host := "") (Or.inl (w18 hw)) Via.refl S_CS d3_27 (pc' := 30) rfl (fun T X => ?_)
  refine k_if_eq G X d3_30 (pc' := 58) rfl (by decide) (pc'' := 33) rfl (fun c30 => (absurd c30 hcs)) (fun c30 => ?_)
  refine k_aloadN G X d3_33 (pc' := 34) rfl rfl rfl ?_
  refine k_iloadN G X d3_34 (pc' := 35) rfl rfl ?_
  refine k_iloadN G X d3_35 (pc' := 36) rfl rfl ?_
  refine k_callS G X (argsL := [(.ref a), (.int (0 : Int32)), (.int z)]) (rest := []) rfl (w19 hw) (w20 hw) (w21 hw) (w22 hw) (by decide) (str_cmp2 hw a ka n z c h0 n0 _ hz hn A O hc) d3_36 pd1 rfl (pc' := 39) rfl rfl (wd := 0) rfl (by decide) (by decide) (by decide) (by decide) (fun T h36 v sf36 X q => ?_)
  replace X := W.drop X
  obtain ⟨b, kb, rfl, sz_b, K36, B, YB⟩ := q
  replace S_CS := Jvm.OwnK.Sta_keep S_CS K36
  replace E := E.keep K36
  replace FV := FV.keep K36 nin0
  replace FC := FC.keep K36 nin0
  replace A := A.keep K36 nin0
  replace O := O.keep K36 (all0)
  replace KP := KP.trans K36 (all0)
  replace FH := FH.keep K36 nin0
  replace FZ := FZ.keep K36 nin0
  show Go Γ n0 _ T (mkF Γ.m 39 #[.val (.ref s), .val (.ref a), .val (.int (0 : Int32)), .val (.int z), .val .null, .unset] [(.ref b)])
  refine k_astore G X d3_39 (pc' := 41) rfl rfl (l' := #[.val (.ref s), .val (.ref a), .val (.int (0 : Int32)), .val (.int z), .val .null, .val (.ref b)]) rfl ?_
  have ne_s_b : s ≠ b := Nat.ne_of_lt (Nat.lt_of_lt_of_le E0.lt sz_b)
  have ne_a_b : a ≠ b := Nat.ne_of_lt (Nat.lt_of_lt_of_le A0.lt sz_b)
  refine k_aloadN G X d3_41 (pc' := 42) rfl rfl rfl ?_
  refine k_aload G X d3_42 (pc' := 44) rfl rfl rfl ?_
  refine k_iloadN G X d3_44 (pc' := 45) rfl rfl ?_
  refine k_callS G X (argsL := [(.ref b), (.int z)]) (rest := [(.ref s)]) rfl (w27 hw) (w28 hw) (w21 hw) (w29 hw) (by decide) (str_cod hw b kb n z _ h36 n0 _ hz B) d3_45 pd2 rfl (pc' := 48) rfl rfl (wd := 1) rfl (by decide) (by decide) (by decide) (by decide) (fun T h45 v sf45 X q => ?_)
  replace X := W.drop X
  obtain ⟨rfl, e45⟩ := q
  replace X := X.eq e45
  show Go Γ n0 _ T (mkF Γ.m 48 #[.val (.ref s), .val (.ref a), .val (.int (0 : Int32)), .val (.int z), .val .null, .val (.ref b)] [(.int (0 : Int32)), (.ref s)])
  refine k_putFN G X (w30 hw) Via.refl FC E (Or.inr ⟨(w31 hw), rfl, rfl⟩) (w5 hw) (ty := .byte) (v' := (.int (0 : Int32))) (by decide) rfl rfl ge_s (List.mem_append_right [] gm_s.2) d3_48 (pc' := 51) rfl (fun T h48 W48 X => ?_)
  replace E := E.wr W48
  replace FV := FV.other W48 (Or.inr (slot_ne (Or.inr (w33 hw)) (Or.inr (w31 hw)) (by decide) (t := (.array .byte)) (t' := .byte) (by decide) (by decide)))
  replace FC := FC.same W48
  replace A := A.other W48 (Ne.symm ne_s_a)
  replace O := O.wr W48 ge_s
  replace KP := KP.wr W48 (Or.inl (List.mem_of_getElem? (i := 0) rfl))
  replace S_CS := S_CS.wr W48
  replace FH := FH.other W48 (Or.inr (slot_ne (Or.inl (w187 hw)) (Or.inr (w31 hw)) (by decide) (t := .int) (t' := .byte) (by decide) (by decide)))
  replace FZ := FZ.other W48 (Or.inr (slot_ne (Or.inl (w189 hw)) (Or.inr (w31 hw)) (by decide) (t := .boolean) (t' := .byte) (by decide) (by decide)))
  replace YB := YB.wr W48
  replace B := B.other W48 (Ne.symm ne_s_b)
  refine k_aloadN G X d3_51 (pc' := 52) rfl rfl rfl ?_
  refine k_aload G X d3_52 (pc' := 54) rfl rfl rfl ?_
  refine k_putF G X (host := "") (Or.inl (w32 hw)) Via.refl FV E (Or.inr ⟨(w33 hw), rfl, rfl⟩) (w5 hw) (ty := (.array .byte)) (by decide) rfl rfl ge_s (List.mem_append_right [] gm_s.2) d3_54 (pc' := 57) rfl (fun T h54 W54 X => ?_)
  replace E := E.wr W54
  replace FV := FV.same W54
  replace FC := FC.other W54 (Or.inr (slot_ne (Or.inr (w31 hw)) (Or.inr (w33 hw)) (by decide) (t := .byte) (t' := (.array .byte)) (by decide) (by decide)))
  replace A := A.other W54 (Ne.symm ne_s_a)
  replace O := O.wr W54 ge_s
  replace KP := KP.wr W54 (Or.inl (List.mem_of_getElem? (i := 0) rfl))
  replace S_CS := S_CS.wr W54
  replace FH := FH.other W54 (Or.inr (slot_ne (Or.inl (w187 hw)) (Or.inr (w33 hw)) (by decide) (t := .int) (t' := (.array .byte)) (by decide) (by decide)))
  replace FZ := FZ.other W54 (Or.inr (slot_ne (Or.inl (w189 hw)) (Or.inr (w33 hw)) (by decide) (t := .boolean) (t' := (.array .byte)) (by decide) (by decide)))
  replace YB := YB.wr W54
  replace B := B.other W54 (Ne.symm ne_s_b)
  refine k_retv G X d3_57 rfl ?_ (by decide) (by decide)
  exact ⟨rfl, KP, b, kb, sz_b, ⟨E, FC, FV, B⟩, YB, FH, FZ⟩
theorem pn_2 : plainFor (⟨"java/lang/String", "<init>", "([C)V"⟩ : MethodName) = true := plainFor_of_name (by first | (simp [plainName, overriddenIn]; done) | decide +kernel)
set_option maxRecDepth 65536 in
set_option maxHeartbeats 40000000 in
theorem str_init {Z : State} {a0 : Array Value} (hw : HW a0 Z) (s a : Addr) (ka : ClassId) (n : Nat) (z cs : Int32) (c : Nat → Int32) (h0 : Heap) (n0 : Nat) (sf0 : List Addr) (hz : z.toInt = n) (hn : n ≤ 2) (hn1 : 1 ≤ n) (E : Exa Z h0 s "java/lang/String") (FV : Fld Z h0 s "java/lang/String" "value" "[B" .null) (FC : Fld Z h0 s "java/lang/String" "coder" "B" (.int 0)) (A : Arf Z h0 a ka .char n (fun i => .int (c i))) (ne_s_a : s ≠ a) (gm_s : n0 ≤ s ∧ s ∈ sf0) (O : Old Z n0 h0) (S_CS : Sta Z h0 "java/lang/String" "COMPACT_STRINGS" "Z" (.int cs)) (hcs : cs ≠ 0) (hc : ∀ i, i < n → 0 ≤ (c i).toInt ∧ (c i).toInt ≤ 255) (FH : Fld Z h0 s "java/lang/String" "hash" "I" (.int 0)) (FZ : Fld Z h0 s "java/lang/String" "hashIsZero" "Z" (.int 0)) :
    MetW Z consts_1 sf0 (⟨"java/lang/String", "<init>", "([C)V"⟩ : MethodName) jdk_42_method_3_code 2 none [] ({ frames := 3, cells := 1, slots := 2, locals := 54 } : Room) #[(.ref s), (.ref a)] h0 n0 (fun v h sf => v = none ∧ Keep h0 h [s] ∧ ∃ b kb, h0.size ≤ b ∧ Str Z h s b kb n (fun i => (c i).toInt8.toInt32) ∧ Exa Z h b "[B" ∧ Fld Z h s "java/lang/String" "hash" "I" (.int 0) ∧ Fld Z h s "java/lang/String" "hashIsZero" "Z" (.int 0)) := by
  refine k_body (hEW hw) (f := (fun m => mkF m 0 #[.val (.ref s), .val (.ref a)] [])) pn_2 (fun m => by first | (simp [entryFrame, mkF, argsToLocals, Value.category, maxLocals]; done) | rfl) ?_
  intro Γ T G X
  have ge_s := gm_s.1
  have KP := Keep.refl h0 [s]
  show Go Γ n0 _ T (mkF Γ.m 0 #[.val (.ref s), .val (.ref a)] [])
  refine k_aloadN G X d2_0 (pc' := 1) rfl rfl rfl ?_
  refine k_aloadN G X d2_1 (pc' := 2) rfl rfl rfl ?_
  refine k_iconst G X d2_2 (pc' := 3) rfl (z := (0 : Int32)) (by decide) ?_
  refine k_aloadN G X d2_3 (pc' := 4) rfl rfl rfl ?_
  refine k_alen G X (z := z) A hz d2_4 (pc' := 5) rfl ?_
  refine k_anull G X d2_5 (pc' := 6) rfl ?_
  refine k_callI G X (argsL := [(.ref a), (.int (0 : Int32)), (.int z), .null]) (rest := []) rfl rfl (w11 hw) (w12 hw) (w6 hw) (w14 hw) (by decide) (str_init4 hw s a ka n z cs c h0 n0 _ hz hn hn1 E FV FC A ne_s_a ⟨ge_s, (List.mem_append_right [] gm_s.2)⟩ O S_CS hcs hc FH FZ) d2_6 pd3 rfl (pc' := 9) rfl rfl (wd := 0) rfl (by decide) (by decide) (by decide) (by decide) (fun T h6 v sf6 X q => ?_)
  replace X := W.drop X
  obtain ⟨rfl, q⟩ := q
  show Go Γ n0 _ T (mkF Γ.m 9 #[.val (.ref s), .val (.ref a)] [])
  refine k_retv G X d2_9 rfl ?_ (by decide) (by decide)
  exact ⟨rfl, q⟩
theorem pn_39 : plainFor (⟨"java/lang/StringLatin1", "equals", "([B[B)Z"⟩ : MethodName) = true := plainFor_of_name (by first | (simp [plainName, overriddenIn]; done) | decide +kernel)
set_option maxRecDepth 65536 in
set_option maxHeartbeats 40000000 in
theorem str_leq {Z : State} {a0 : Array Value} (hw : HW a0 Z) (a b : Addr) (ka kb : ClassId) (n m : Nat) (f g : Nat → Int32) (h0 : Heap) (n0 : Nat) (sf0 : List Addr) (A : Arf Z h0 a ka .byte n (fun i => .int (f i))) (B : Arf Z h0 b kb .byte m (fun i => .int (g i))) :
    MetW Z consts_1 sf0 (⟨"java/lang/StringLatin1", "equals", "([B[B)Z"⟩ : MethodName) jdk_43_method_13_code 3 (some .boolean) [] ({ frames := 0, cells := 0, slots := 0, locals := 0 } : Room) #[(.ref a), (.ref b)] h0 n0 (fun v h sf => ∃ r : Int32, v = some (.int r) ∧ (r = 0 ∨ r = 1) ∧ (r = 1 ↔ n = m ∧ ∀ i, i < n → f i = g i) ∧ h = h0) := by
  refine k_body (hEW hw) (f := (fun m => mkF m 0 #[.val (.ref a), .val (.ref b), .unset] [])) pn_39 (fun m => by first | (simp [entryFrame, mkF, argsToLocals, Value.category, maxLocals]; done) | rfl) ?_
  intro Γ T G X
  obtain ⟨zn, hn⟩ : ∃ z : Int32, z.toInt = n := ⟨n.toInt32, len_toInt A.size_lt⟩
  obtain ⟨zm, hm⟩ : ∃ z : Int32, z.toInt = m := ⟨m.toInt32, len_toInt B.size_lt⟩
  show Go Γ n0 _ T (mkF Γ.m 0 #[.val (.ref a), .val (.ref b), .unset] [])
  refine k_aloadN G X d39_0 (pc' := 1) rfl rfl rfl ?_
  refine k_alen G X (z := zn) A hn d39_1 (pc' := 2) rfl ?_
  refine k_aloadN G X d39_2 (pc' := 3) rfl rfl rfl ?_
  refine k_alen G X (z := zm) B hm d39_3 (pc' := 4) rfl ?_
  refine k_icmp_ne G X d39_4 (pc' := 34) rfl (by decide) (pc'' := 7) rfl (fun c4 => ?_) (fun c4 => ?_)
  · refine k_iconst G X d39_34 (pc' := 35) rfl (z := (0 : Int32)) (by decide) ?_
    refine k_retb G X d39_35 (t := .boolean) rfl (by simp) rfl ?_ (by decide) (by decide)
    exact ⟨_, rfl, Or.inl rfl, ⟨fun q => absurd q (by decide), fun q => absurd (of_toInt (by rw [hn, hm, q.1])) c4⟩, rfl⟩
  · have hnm : n = m := by have : zn.toInt = zm.toInt := congrArg _ c4; omega
    refine k_iconst G X d39_7 (pc' := 8) rfl (z := (0 : Int32)) (by decide) ?_
    refine k_istoreN G X d39_8 (pc' := 9) rfl (l' := #[.val (.ref a), .val (.ref b), .val (.int (0 : Int32))]) rfl ?_
    have LOOP : ∀ (k : Nat) (T : State) (i : Int32), (0 ≤ i.toInt) → (i.toInt ≤ n) → (∀ x, x < i.toInt.toNat → f x = g x) → n - i.toInt.toNat = k → W Γ n0 T h0 0 0 (sf0) → Go Γ n0 (fun v h sf => ∃ r : Int32, v = some (.int r) ∧ (r = 0 ∨ r = 1) ∧ (r = 1 ↔ n = m ∧ ∀ i, i < n → f i = g i) ∧ h = h0) T (mkF Γ.m 9 #[.val (.ref a), .val (.ref b), .val (.int i)] []) := by
      intro k
      induction k using Nat.strongRecOn with
      | _ k ih =>
        intro T i hi0 hin hall hk X
        refine k_iloadN G X d39_9 (pc' := 10) rfl rfl ?_
        refine k_aloadN G X d39_10 (pc' := 11) rfl rfl rfl ?_
        refine k_alen G X (z := zn) A hn d39_11 (pc' := 12) rfl ?_
        refine k_icmp_ge G X d39_12 (pc' := 32) rfl (by decide) (pc'' := 15) rfl (fun c12 => ?_) (fun c12 => ?_)
        · refine k_iconst G X d39_32 (pc' := 33) rfl (z := (1 : Int32)) (by decide) ?_
          refine k_retb G X d39_33 (t := .boolean) rfl (by simp) rfl ?_ (by decide) (by decide)
          exact ⟨_, rfl, Or.inr rfl, ⟨fun _ => ⟨hnm, fun x hx => hall x (by omega)⟩, fun _ => rfl⟩, rfl⟩
        · have hlt : i.toInt < n := by omega
          have hi1 : (i + (1 : Int32)).toInt = i.toInt + 1 := iadd_toInt (by rw [show (1 : Int32).toInt = 1 from rfl]; omega) (by rw [show (1 : Int32).toInt = 1 from rfl]; have := A.size_lt; omega)
          refine k_aloadN G X d39_15 (pc' := 16) rfl rfl rfl ?_
          refine k_iloadN G X d39_16 (pc' := 17) rfl rfl ?_
          refine k_baload G X (i := i.toInt.toNat) (v := (.int (f i.toInt.toNat))) A (by omega) (by omega) rfl d39_17 (pc' := 18) rfl ?_
          refine k_aloadN G X d39_18 (pc' := 19) rfl rfl rfl ?_
          refine k_iloadN G X d39_19 (pc' := 20) rfl rfl ?_
          refine k_baload G X (i := i.toInt.toNat) (v := (.int (g i.toInt.toNat))) B (by omega) (by omega) rfl d39_20 (pc' := 21) rfl ?_
          refine k_icmp_eq G X d39_21 (pc' := 26) rfl (by decide) (pc'' := 24) rfl (fun c21 => ?_) (fun c21 => ?_)
          · refine k_iinc G X d39_26 (pc' := 29) rfl rfl (z := (i + (1 : Int32))) rfl (l' := #[.val (.ref a), .val (.ref b), .val (.int (i + (1 : Int32)))]) rfl ?_
            refine k_goto G X d39_29 (by decide) (pc' := 9) rfl ?_
            exact ih _ (by rw [hi1]; omega) T (i + (1 : Int32)) (by omega) (by omega) (fun x hx => by rcases Nat.lt_or_ge x i.toInt.toNat with q | q; exact hall x q; rw [show x = i.toInt.toNat by omega]; exact c21) rfl X
          · refine k_iconst G X d39_24 (pc' := 25) rfl (z := (0 : Int32)) (by decide) ?_
            refine k_retb G X d39_25 (t := .boolean) rfl (by simp) rfl ?_ (by decide) (by decide)
            exact ⟨_, rfl, Or.inl rfl, ⟨fun q => absurd q (by decide), fun q => absurd (q.2 i.toInt.toNat (by omega)) c21⟩, rfl⟩
    exact LOOP _ T (0 : Int32) (by decide) (by rw [z32]; omega) (fun x hx => absurd hx (by simp [z32])) rfl X
theorem pn_38 : plainFor (⟨"java/lang/String", "equals", "(Ljava/lang/Object;)Z"⟩ : MethodName) = true := plainFor_of_name (by first | (simp [plainName, overriddenIn]; done) | decide +kernel)
set_option maxRecDepth 65536 in
set_option maxHeartbeats 40000000 in
theorem str_eq {Z : State} {a0 : Array Value} (hw : HW a0 Z) (s t b b' : Addr) (k k' : ClassId) (n m : Nat) (cs : Int32) (f g : Nat → Int32) (h0 : Heap) (n0 : Nat) (sf0 : List Addr) (SS : Str Z h0 s b k n f) (TT : Str Z h0 t b' k' m g) (ne_s_t : s ≠ t) (S_CS : Sta Z h0 "java/lang/String" "COMPACT_STRINGS" "Z" (.int cs)) (hcs : cs ≠ 0) :
    MetW Z consts_1 sf0 (⟨"java/lang/String", "equals", "(Ljava/lang/Object;)Z"⟩ : MethodName) jdk_42_method_66_code 3 (some .boolean) [] ({ frames := 1, cells := 0, slots := 0, locals := 14 } : Room) #[(.ref s), (.ref t)] h0 n0 (fun v h sf => ∃ r : Int32, v = some (.int r) ∧ (r = 0 ∨ r = 1) ∧ (r = 1 ↔ n = m ∧ ∀ i, i < n → f i = g i) ∧ h = h0) := by
  refine k_body (hEW hw) (f := (fun m => mkF m 0 #[.val (.ref s), .val (.ref t), .unset] [])) pn_38 (fun m => by first | (simp [entryFrame, mkF, argsToLocals, Value.category, maxLocals]; done) | rfl) ?_
  intro Γ T G X
  obtain ⟨SE, SC, SV, SA⟩ := id SS
  obtain ⟨TE, TC, TV, TA⟩ := id TT
  show Go Γ n0 _ T (mkF Γ.m 0 #[.val (.ref s), .val (.ref t), .unset] [])
  refine k_aloadN G X d38_0 (pc' := 1) rfl rfl rfl ?_
  refine k_aloadN G X d38_1 (pc' := 2) rfl rfl rfl ?_
  refine k_acmp_ne G X d38_2 (pc' := 7) rfl (by decide) (pc'' := 5) rfl rfl rfl (fun c2 => ?_) (fun c2 => (absurd c2 (by simpa using ne_s_t)))
  refine k_aloadN G X d38_7 (pc' := 8) rfl rfl rfl ?_
  refine k_instY G X (w213 hw) (Ins.self TE) d38_8 (pc' := 11) rfl (fun T X => ?_)
  refine k_if_eq G X d38_11 (pc' := 54) rfl (by decide) (pc'' := 14) rfl (fun c11 => (absurd c11 (by decide))) (fun c11 => ?_)
  refine k_aloadN G X d38_14 (pc' := 15) rfl rfl rfl ?_
  refine k_castY G X (w213 hw) (Ins.self TE) d38_15 (pc' := 18) rfl (fun T X => ?_)
  refine k_astoreN G X d38_18 (pc' := 19) rfl rfl (l' := #[.val (.ref s), .val (.ref t), .val (.ref t)]) rfl ?_
  refine k_getS G X (host := "") (Or.inl (w18 hw)) Via.refl S_CS d38_19 (pc' := 22) rfl (fun T X => ?_)
  refine k_if_eq G X d38_22 (pc' := 36) rfl (by decide) (pc'' := 25) rfl (fun c22 => (absurd c22 hcs)) (fun c22 => ?_)
  refine k_aloadN G X d38_25 (pc' := 26) rfl rfl rfl ?_
  refine k_getF G X (host := "") (Or.inl (w30 hw)) Via.refl SC d38_26 (pc' := 29) rfl (fun T X => ?_)
  refine k_aloadN G X d38_29 (pc' := 30) rfl rfl rfl ?_
  refine k_getF G X (host := "") (Or.inl (w30 hw)) Via.refl TC d38_30 (pc' := 33) rfl (fun T X => ?_)
  refine k_icmp_ne G X d38_33 (pc' := 54) rfl (by decide) (pc'' := 36) rfl (fun c33 => (absurd c33 (by decide))) (fun c33 => ?_)
  refine k_aloadN G X d38_36 (pc' := 37) rfl rfl rfl ?_
  refine k_getF G X (host := "") (Or.inl (w32 hw)) Via.refl SV d38_37 (pc' := 40) rfl (fun T X => ?_)
  refine k_aloadN G X d38_40 (pc' := 41) rfl rfl rfl ?_
  refine k_getF G X (host := "") (Or.inl (w32 hw)) Via.refl TV d38_41 (pc' := 44) rfl (fun T X => ?_)
  refine k_callS G X (argsL := [(.ref b), (.ref b')]) (rest := []) rfl (w214 hw) (w215 hw) (w197 hw) (w216 hw) (by decide) (str_leq hw b b' k k' n m f g h0 n0 _ SS.2.2.2 TT.2.2.2) d38_44 pd4 rfl (pc' := 47) rfl rfl (wd := 0) rfl (by decide) (by decide) (by decide) (by decide) (fun T h44 v sf44 X q => ?_)
  replace X := W.drop X
  obtain ⟨r, rfl, hr, hiff, e44⟩ := q
  replace X := X.eq e44
  show Go Γ n0 _ T (mkF Γ.m 47 #[.val (.ref s), .val (.ref t), .val (.ref t)] [(.int r)])
  refine k_if_eq G X d38_47 (pc' := 54) rfl (by decide) (pc'' := 50) rfl (fun c47 => ?_) (fun c47 => ?_)
  · refine k_iconst G X d38_54 (pc' := 55) rfl (z := (0 : Int32)) (by decide) ?_
    refine k_retb G X d38_55 (t := .boolean) rfl (by simp) rfl ?_ (by decide) (by decide)
    exact ⟨_, rfl, Or.inl rfl, by rw [← hiff]; rcases hr with rfl | rfl <;> simp_all, rfl⟩
  · refine k_iconst G X d38_50 (pc' := 51) rfl (z := (1 : Int32)) (by decide) ?_
    refine k_goto G X d38_51 (by decide) (pc' := 55) rfl ?_
    refine k_retb G X d38_55 (t := .boolean) rfl (by simp) rfl ?_ (by decide) (by decide)
    exact ⟨_, rfl, Or.inr rfl, by rw [← hiff]; rcases hr with rfl | rfl <;> simp_all, rfl⟩
set_option maxRecDepth 65536 in
set_option maxHeartbeats 40000000 in
theorem str_eqs {Z : State} {a0 : Array Value} (hw : HW a0 Z) (s : Addr) (h0 : Heap) (n0 : Nat) (sf0 : List Addr) :
    MetW Z consts_1 sf0 (⟨"java/lang/String", "equals", "(Ljava/lang/Object;)Z"⟩ : MethodName) jdk_42_method_66_code 3 (some .boolean) [] ({ frames := 0, cells := 0, slots := 0, locals := 0 } : Room) #[(.ref s), (.ref s)] h0 n0 (fun v h sf => v = some (.int 1) ∧ h = h0) := by
  refine k_body (hEW hw) (f := (fun m => mkF m 0 #[.val (.ref s), .val (.ref s), .unset] [])) pn_38 (fun m => by first | (simp [entryFrame, mkF, argsToLocals, Value.category, maxLocals]; done) | rfl) ?_
  intro Γ T G X
  show Go Γ n0 _ T (mkF Γ.m 0 #[.val (.ref s), .val (.ref s), .unset] [])
  refine k_aloadN G X d38_0 (pc' := 1) rfl rfl rfl ?_
  refine k_aloadN G X d38_1 (pc' := 2) rfl rfl rfl ?_
  refine k_acmp_ne G X d38_2 (pc' := 7) rfl (by decide) (pc'' := 5) rfl rfl rfl (fun c2 => (absurd c2 (by simp))) (fun c2 => ?_)
  refine k_iconst G X d38_5 (pc' := 6) rfl (z := (1 : Int32)) (by decide) ?_
  refine k_retb G X d38_6 (t := .boolean) rfl (by simp) rfl ?_ (by decide) (by decide)
  exact ⟨rfl, rfl⟩
theorem pn_10 : plainFor (⟨"java/lang/String", "isEmpty", "()Z"⟩ : MethodName) = true := plainFor_of_name (by first | (simp [plainName, overriddenIn]; done) | decide +kernel)
set_option maxRecDepth 65536 in
set_option maxHeartbeats 40000000 in
theorem str_emp {Z : State} {a0 : Array Value} (hw : HW a0 Z) (s b : Addr) (k : ClassId) (n : Nat) (f : Nat → Int32) (h0 : Heap) (n0 : Nat) (sf0 : List Addr) (SS : Str Z h0 s b k n f) (hn1 : 1 ≤ n) :
    MetW Z consts_1 sf0 (⟨"java/lang/String", "isEmpty", "()Z"⟩ : MethodName) jdk_42_method_55_code 1 (some .boolean) [] ({ frames := 0, cells := 0, slots := 0, locals := 0 } : Room) #[(.ref s)] h0 n0 (fun v h sf => v = some (.int 0) ∧ h = h0) := by
  refine k_body (hEW hw) (f := (fun m => mkF m 0 #[.val (.ref s)] [])) pn_10 (fun m => by first | (simp [entryFrame, mkF, argsToLocals, Value.category, maxLocals]; done) | rfl) ?_
  intro Γ T G X
  obtain ⟨SE, SC, SV, SA⟩ := id SS
  obtain ⟨zn, hn⟩ : ∃ z : Int32, z.toInt = n := ⟨n.toInt32, len_toInt SA.size_lt⟩
  show Go Γ n0 _ T (mkF Γ.m 0 #[.val (.ref s)] [])
  refine k_aloadN G X d10_0 (pc' := 1) rfl rfl rfl ?_
  refine k_getF G X (host := "") (Or.inl (w32 hw)) Via.refl SV d10_1 (pc' := 4) rfl (fun T X => ?_)
  refine k_alen G X (z := zn) SA hn d10_4 (pc' := 5) rfl ?_
  refine k_if_ne G X d10_5 (pc' := 12) rfl (by decide) (pc'' := 8) rfl (fun c5 => ?_) (fun c5 => (absurd c5 (by intro q; rw [q, z32] at hn; omega)))
  refine k_iconst G X d10_12 (pc' := 13) rfl (z := (0 : Int32)) (by decide) ?_
  refine k_retb G X d10_13 (t := .boolean) rfl (by simp) rfl ?_ (by decide) (by decide)
  exact ⟨rfl, rfl⟩
theorem pn_35 : plainFor (⟨"java/lang/String", "isLatin1", "()Z"⟩ : MethodName) = true := plainFor_of_name (by first | (simp [plainName, overriddenIn]; done) | decide +kernel)
set_option maxRecDepth 65536 in
set_option maxHeartbeats 40000000 in
theorem str_lat {Z : State} {a0 : Array Value} (hw : HW a0 Z) (s b : Addr) (k : ClassId) (n : Nat) (z cs : Int32) (f : Nat → Int32) (h0 : Heap) (n0 : Nat) (sf0 : List Addr) (SS : Str Z h0 s b k n f) (hz : z.toInt = n) (S_CS : Sta Z h0 "java/lang/String" "COMPACT_STRINGS" "Z" (.int cs)) (hcs : cs ≠ 0) :
    MetW Z consts_1 sf0 (⟨"java/lang/String", "isLatin1", "()Z"⟩ : MethodName) jdk_42_method_154_code 1 (some .boolean) [] ({ frames := 0, cells := 0, slots := 0, locals := 0 } : Room) #[(.ref s)] h0 n0 (fun v h sf => v = some (.int 1) ∧ h = h0) := by
  refine k_body (hEW hw) (f := (fun m => mkF m 0 #[.val (.ref s)] [])) pn_35 (fun m => by first | (simp [entryFrame, mkF, argsToLocals, Value.category, maxLocals]; done) | rfl) ?_
  intro Γ T G X
  obtain ⟨SE, SC, SV, SA⟩ := id SS
  show Go Γ n0 _ T (mkF Γ.m 0 #[.val (.ref s)] [])
  refine k_getS G X (host := "") (Or.inl (w18 hw)) Via.refl S_CS d35_0 (pc' := 3) rfl (fun T X => ?_)
  refine k_if_eq G X d35_3 (pc' := 17) rfl (by decide) (pc'' := 6) rfl (fun c3 => (absurd c3 hcs)) (fun c3 => ?_)
  refine k_aloadN G X d35_6 (pc' := 7) rfl rfl rfl ?_
  refine k_getF G X (host := "") (Or.inl (w30 hw)) Via.refl SC d35_7 (pc' := 10) rfl (fun T X => ?_)
  refine k_if_ne G X d35_10 (pc' := 17) rfl (by decide) (pc'' := 13) rfl (fun c10 => (absurd c10 (by decide))) (fun c10 => ?_)
  refine k_iconst G X d35_13 (pc' := 14) rfl (z := (1 : Int32)) (by decide) ?_
  refine k_goto G X d35_14 (by decide) (pc' := 18) rfl ?_
  refine k_retb G X d35_18 (t := .boolean) rfl (by simp) rfl ?_ (by decide) (by decide)
  exact ⟨rfl, rfl⟩
theorem pn_16 : plainFor (⟨"java/lang/String", "coder", "()B"⟩ : MethodName) = true := plainFor_of_name (by first | (simp [plainName, overriddenIn]; done) | decide +kernel)
set_option maxRecDepth 65536 in
set_option maxHeartbeats 40000000 in
theorem str_cod1 {Z : State} {a0 : Array Value} (hw : HW a0 Z) (s b : Addr) (k : ClassId) (n : Nat) (z cs : Int32) (f : Nat → Int32) (h0 : Heap) (n0 : Nat) (sf0 : List Addr) (SS : Str Z h0 s b k n f) (hz : z.toInt = n) (S_CS : Sta Z h0 "java/lang/String" "COMPACT_STRINGS" "Z" (.int cs)) (hcs : cs ≠ 0) :
    MetW Z consts_1 sf0 (⟨"java/lang/String", "coder", "()B"⟩ : MethodName) jdk_42_method_152_code 1 (some .byte) [] ({ frames := 0, cells := 0, slots := 0, locals := 0 } : Room) #[(.ref s)] h0 n0 (fun v h sf => v = some (.int 0) ∧ h = h0) := by
  refine k_body (hEW hw) (f := (fun m => mkF m 0 #[.val (.ref s)] [])) pn_16 (fun m => by first | (simp [entryFrame, mkF, argsToLocals, Value.category, maxLocals]; done) | rfl) ?_
  intro Γ T G X
  obtain ⟨SE, SC, SV, SA⟩ := id SS
  show Go Γ n0 _ T (mkF Γ.m 0 #[.val (.ref s)] [])
  refine k_getS G X (host := "") (Or.inl (w18 hw)) Via.refl S_CS d16_0 (pc' := 3) rfl (fun T X => ?_)
  refine k_if_eq G X d16_3 (pc' := 13) rfl (by decide) (pc'' := 6) rfl (fun c3 => (absurd c3 hcs)) (fun c3 => ?_)
  refine k_aloadN G X d16_6 (pc' := 7) rfl rfl rfl ?_
  refine k_getF G X (host := "") (Or.inl (w30 hw)) Via.refl SC d16_7 (pc' := 10) rfl (fun T X => ?_)
  refine k_goto G X d16_10 (by decide) (pc' := 14) rfl ?_
  refine k_retb G X d16_14 (t := .byte) rfl (by simp) rfl ?_ (by decide) (by decide)
  exact ⟨rfl, rfl⟩
theorem pn_15 : plainFor (⟨"java/lang/String", "length", "()I"⟩ : MethodName) = true := plainFor_of_name (by first | (simp [plainName, overriddenIn]; done) | decide +kernel)
set_option maxRecDepth 65536 in
set_option maxHeartbeats 40000000 in
theorem str_len {Z : State} {a0 : Array Value} (hw : HW a0 Z) (s b : Addr) (k : ClassId) (n : Nat) (z cs : Int32) (f : Nat → Int32) (h0 : Heap) (n0 : Nat) (sf0 : List Addr) (SS : Str Z h0 s b k n f) (hz : z.toInt = n) (S_CS : Sta Z h0 "java/lang/String" "COMPACT_STRINGS" "Z" (.int cs)) (hcs : cs ≠ 0) :
    MetW Z consts_1 sf0 (⟨"java/lang/String", "length", "()I"⟩ : MethodName) jdk_42_method_54_code 1 (some .int) [] ({ frames := 1, cells := 0, slots := 0, locals := 13 } : Room) #[(.ref s)] h0 n0 (fun v h sf => v = some (.int z) ∧ h = h0) := by
  refine k_body (hEW hw) (f := (fun m => mkF m 0 #[.val (.ref s)] [])) pn_15 (fun m => by first | (simp [entryFrame, mkF, argsToLocals, Value.category, maxLocals]; done) | rfl) ?_
  intro Γ T G X
  obtain ⟨SE, SC, SV, SA⟩ := id SS
  show Go Γ n0 _ T (mkF Γ.m 0 #[.val (.ref s)] [])
  refine k_aloadN G X d15_0 (pc' := 1) rfl rfl rfl ?_
  refine k_getF G X (host := "") (Or.inl (w32 hw)) Via.refl SV d15_1 (pc' := 4) rfl (fun T X => ?_)
  refine k_alen G X (z := z) SA hz d15_4 (pc' := 5) rfl ?_
  refine k_aloadN G X d15_5 (pc' := 6) rfl rfl rfl ?_
  refine k_callV G X (argsL := []) (rest := [(.int z)]) rfl SE (w91 hw) (w92 hw) (nf_sel (w94 hw)) (w94 hw) (w93 hw) (w6 hw) (w95 hw) (by decide) (str_cod1 hw s b k n z cs f h0 n0 _ SS hz S_CS hcs) d15_6 pd5 rfl (pc' := 9) rfl rfl (wd := 1) rfl (by decide) (by decide) (by decide) (by decide) (fun T h6 v sf6 X q => ?_)
  replace X := W.drop X
  obtain ⟨rfl, e6⟩ := q
  replace X := X.eq e6
  show Go Γ n0 _ T (mkF Γ.m 9 #[.val (.ref s)] [(.int (0 : Int32)), (.int z)])
  refine k_ishr G X d15_9 (pc' := 10) rfl rfl ?_
  rw [shr0 z]
  refine k_reti G X d15_10 rfl ?_ (by decide) (by decide)
  exact ⟨rfl, rfl⟩
theorem pn_12 : plainFor (⟨"java/lang/AbstractStringBuilder", "<init>", "(I)V"⟩ : MethodName) = true := plainFor_of_name (by first | (simp [plainName, overriddenIn]; done) | decide +kernel)
set_option maxRecDepth 65536 in
set_option maxHeartbeats 40000000 in
theorem sb_i2 {Z : State} {a0 : Array Value} (hw : HW a0 Z) (o : Addr) (cs : Int32) (h0 : Heap) (n0 : Nat) (sf0 : List Addr) (gm_o : n0 ≤ o ∧ o ∈ sf0) (O : Old Z n0 h0) (E : Exa Z h0 o "java/lang/StringBuilder") (FV : Fld Z h0 o "java/lang/AbstractStringBuilder" "value" "[B" .null) (FC : Fld Z h0 o "java/lang/AbstractStringBuilder" "coder" "B" (.int (0 : Int32))) (FN : Fld Z h0 o "java/lang/AbstractStringBuilder" "count" "I" (.int (0 : Int32))) (S_CS : Sta Z h0 "java/lang/String" "COMPACT_STRINGS" "Z" (.int cs)) (hcs : cs ≠ 0) :
    MetW Z consts_1 sf0 (⟨"java/lang/AbstractStringBuilder", "<init>", "(I)V"⟩ : MethodName) jdk_68_method_2_code 2 none [] ({ frames := 1, cells := 1, slots := 16, locals := 12 } : Room) #[(.ref o), (.int (16 : Int32))] h0 n0 (fun v h sf => v = none ∧ Keep h0 h [o] ∧ Exa Z h o "java/lang/StringBuilder" ∧ ∃ b k, h0.size ≤ b ∧ Fld Z h o "java/lang/AbstractStringBuilder" "value" "[B" (.ref b) ∧ Fld Z h o "java/lang/AbstractStringBuilder" "coder" "B" (.int (0 : Int32)) ∧ Fld Z h o "java/lang/AbstractStringBuilder" "count" "I" (.int (0 : Int32)) ∧ Arf Z h b k .byte 16 (fun _ => .int 0) ∧ b ∈ sf) := by
  refine k_body (hEW hw) (f := (fun m => mkF m 0 #[.val (.ref o), .val (.int (16 : Int32))] [])) pn_12 (fun m => by first | (simp [entryFrame, mkF, argsToLocals, Value.category, maxLocals]; done) | rfl) ?_
  intro Γ T G X
  have ge_o := gm_o.1
  have KP := Keep.refl h0 [o]
  show Go Γ n0 _ T (mkF Γ.m 0 #[.val (.ref o), .val (.int (16 : Int32))] [])
  refine k_aloadN G X d12_0 (pc' := 1) rfl rfl rfl ?_
  refine k_initO G X (w70 hw) (w16 hw) (w17 hw) d12_1 (pc' := 4) rfl rfl (by decide) (wd := 0) rfl (by decide) (fun T X => ?_)
  refine k_getS G X (host := "") (Or.inl (w71 hw)) Via.refl S_CS d12_4 (pc' := 7) rfl (fun T X => ?_)
  refine k_if_eq G X d12_7 (pc' := 25) rfl (by decide) (pc'' := 10) rfl (fun c7 => (absurd c7 hcs)) (fun c7 => ?_)
  refine k_aloadN G X d12_10 (pc' := 11) rfl rfl rfl ?_
  refine k_iloadN G X d12_11 (pc' := 12) rfl rfl ?_
  refine k_newP G X (aty := .byte) (n := 16) (cap := 16) (w23 hw) d12_12 (pc' := 14) rfl rfl (by decide) (by decide) (by decide) (by decide) (fun T h12 b12 k12 s_b12 E12 A_b12 X => ?_)
  have ne_o_b12 : o ≠ b12 := Nat.ne_of_lt (Nat.lt_of_lt_of_eq E.lt s_b12)
  have ge_b12 : n0 ≤ b12 := Nat.le_trans (Jvm.OwnK.Old_le O) (Nat.le_of_eq s_b12)
  have sz_b12 : h0.size ≤ b12 := Nat.le_trans KP.1 (Nat.le_of_eq s_b12)
  replace E := E.ext E12
  replace O := O.ext E12
  replace FV := FV.ext E12
  replace FC := FC.ext E12
  replace FN := FN.ext E12
  replace KP := KP.ext E12
  replace S_CS := S_CS.ext E12
  replace A_b12 : Arf Z h12 b12 k12 .byte 16 (fun _ => (.int (0 : Int32))) := A_b12
  refine k_putF G X (host := "") (Or.inl (w72 hw)) Via.refl FV E (Or.inl (w73 hw)) (w59 hw) (ty := (.array .byte)) (by decide) rfl rfl ge_o (List.mem_append_right [b12] gm_o.2) d12_14 (pc' := 17) rfl (fun T h14 W14 X => ?_)
  replace E := E.wr W14
  replace O := O.wr W14 ge_o
  replace FV := FV.same W14
  replace FC := FC.other W14 (Or.inr (slot_ne (Or.inl (w75 hw)) (Or.inl (w73 hw)) (by decide) (t := .byte) (t' := (.array .byte)) (by decide) (by decide)))
  replace FN := FN.other W14 (Or.inr (slot_ne (Or.inl (w97 hw)) (Or.inl (w73 hw)) (by decide) (t := .int) (t' := (.array .byte)) (by decide) (by decide)))
  replace KP := KP.wr W14 (Or.inl (List.mem_of_getElem? (i := 0) rfl))
  replace S_CS := S_CS.wr W14
  replace A_b12 := A_b12.other W14 (Ne.symm ne_o_b12)
  refine k_aloadN G X d12_17 (pc' := 18) rfl rfl rfl ?_
  refine k_iconst G X d12_18 (pc' := 19) rfl (z := (0 : Int32)) (by decide) ?_
  refine k_putFN G X (w74 hw) Via.refl FC E (Or.inl (w75 hw)) (w59 hw) (ty := .byte) (v' := (.int (0 : Int32))) (by decide) rfl rfl ge_o (List.mem_append_right [b12] gm_o.2) d12_19 (pc' := 22) rfl (fun T h19 W19 X => ?_)
  replace E := E.wr W19
  replace O := O.wr W19 ge_o
  replace FV := FV.other W19 (Or.inr (slot_ne (Or.inl (w73 hw)) (Or.inl (w75 hw)) (by decide) (t := (.array .byte)) (t' := .byte) (by decide) (by decide)))
  replace FC := FC.same W19
  replace FN := FN.other W19 (Or.inr (slot_ne (Or.inl (w97 hw)) (Or.inl (w75 hw)) (by decide) (t := .int) (t' := .byte) (by decide) (by decide)))
  replace KP := KP.wr W19 (Or.inl (List.mem_of_getElem? (i := 0) rfl))
  replace S_CS := S_CS.wr W19
  replace A_b12 := A_b12.other W19 (Ne.symm ne_o_b12)
  refine k_goto G X d12_22 (by decide) (pc' := 38) rfl ?_
  refine k_retv G X d12_38 rfl ?_ (by decide) (by decide)
  exact ⟨rfl, KP, E, b12, k12, sz_b12, FV, FC, FN, A_b12, (List.mem_of_getElem? (i := 0) rfl)⟩
theorem pn_11 : plainFor (⟨"java/lang/StringBuilder", "<init>", "()V"⟩ : MethodName) = true := plainFor_of_name (by first | (simp [plainName, overriddenIn]; done) | decide +kernel)
set_option maxRecDepth 65536 in
set_option maxHeartbeats 40000000 in
theorem sb_i1 {Z : State} {a0 : Array Value} (hw : HW a0 Z) (o : Addr) (cs : Int32) (h0 : Heap) (n0 : Nat) (sf0 : List Addr) (gm_o : n0 ≤ o ∧ o ∈ sf0) (O : Old Z n0 h0) (E : Exa Z h0 o "java/lang/StringBuilder") (FV : Fld Z h0 o "java/lang/AbstractStringBuilder" "value" "[B" .null) (FC : Fld Z h0 o "java/lang/AbstractStringBuilder" "coder" "B" (.int (0 : Int32))) (FN : Fld Z h0 o "java/lang/AbstractStringBuilder" "count" "I" (.int (0 : Int32))) (S_CS : Sta Z h0 "java/lang/String" "COMPACT_STRINGS" "Z" (.int cs)) (hcs : cs ≠ 0) :
    MetW Z consts_1 sf0 (⟨"java/lang/StringBuilder", "<init>", "()V"⟩ : MethodName) jdk_67_method_1_code 1 none [] ({ frames := 2, cells := 1, slots := 16, locals := 25 } : Room) #[(.ref o)] h0 n0 (fun v h sf => v = none ∧ Keep h0 h [o] ∧ Exa Z h o "java/lang/StringBuilder" ∧ ∃ b k, h0.size ≤ b ∧ Fld Z h o "java/lang/AbstractStringBuilder" "value" "[B" (.ref b) ∧ Fld Z h o "java/lang/AbstractStringBuilder" "coder" "B" (.int (0 : Int32)) ∧ Fld Z h o "java/lang/AbstractStringBuilder" "count" "I" (.int (0 : Int32)) ∧ Arf Z h b k .byte 16 (fun _ => .int 0) ∧ b ∈ sf) := by
  refine k_body (hEW hw) (f := (fun m => mkF m 0 #[.val (.ref o)] [])) pn_11 (fun m => by first | (simp [entryFrame, mkF, argsToLocals, Value.category, maxLocals]; done) | rfl) ?_
  intro Γ T G X
  have ge_o := gm_o.1
  have KP := Keep.refl h0 [o]
  show Go Γ n0 _ T (mkF Γ.m 0 #[.val (.ref o)] [])
  refine k_aloadN G X d11_0 (pc' := 1) rfl rfl rfl ?_
  refine k_bipush G X d11_1 (pc' := 3) rfl (z := (16 : Int32)) (by decide) ?_
  refine k_callI G X (argsL := [(.int (16 : Int32))]) (rest := []) rfl rfl (w64 hw) (w65 hw) (w68 hw) (w69 hw) (by decide) (sb_i2 hw o cs h0 n0 _ ⟨ge_o, (List.mem_append_right [] gm_o.2)⟩ O E FV FC FN S_CS hcs) d11_3 pd6 rfl (pc' := 6) rfl rfl (wd := 0) rfl (by decide) (by decide) (by decide) (by decide) (fun T h3 v sf3 X q => ?_)
  obtain ⟨rfl, K3, E', b, k, sz_b, FV', FC', FN', B, hmb⟩ := q
  replace X := W.only X hmb
  show Go Γ n0 _ T (mkF Γ.m 6 #[.val (.ref o)] [])
  refine k_retv G X d11_6 rfl ?_ (by decide) (by decide)
  exact ⟨rfl, K3, E', b, k, sz_b, FV', FC', FN', B, (List.mem_of_getElem? (i := 0) rfl)⟩
theorem shl0 (z : Int32) : z <<< ((0 : Int32) &&& 31) = z := of_toInt (by have := c_ishl z 0 0 (by decide); have := rgI z; have := rgI (z <<< ((0 : Int32) &&& 31)); omega)
theorem pn_20 : plainFor (⟨"java/lang/String", "getBytes", "([BIB)V"⟩ : MethodName) = true := plainFor_of_name (by first | (simp [plainName, overriddenIn]; done) | decide +kernel)
set_option maxRecDepth 65536 in
set_option maxHeartbeats 40000000 in
theorem sb_gb {Z : State} {a0 : Array Value} (hw : HW a0 Z) (s d b : Addr) (kd k : ClassId) (m N : Nat) (zm zN cs : Int32) (f : Nat → Int32) (g : Nat → Value) (h0 : Heap) (n0 : Nat) (sf0 : List Addr) (SS : Str Z h0 s d kd m f) (hm : zm.toInt = m) (S_CS : Sta Z h0 "java/lang/String" "COMPACT_STRINGS" "Z" (.int cs)) (hcs : cs ≠ 0) (B : Arf Z h0 b k .byte 16 g) (gm_b : n0 ≤ b ∧ b ∈ sf0) (hN : zN.toInt = N) (hfit : N + m ≤ 16) (ne_d_b : d ≠ b) (ne_s_b : s ≠ b) :
    MetW Z consts_1 sf0 (⟨"java/lang/String", "getBytes", "([BIB)V"⟩ : MethodName) jdk_42_method_147_code 4 none [] ({ frames := 1, cells := 0, slots := 0, locals := 18 } : Room) #[(.ref s), (.ref b), (.int zN), (.int (0 : Int32))] h0 n0 (fun v h sf => v = none ∧ Keep h0 h [b] ∧ Arf Z h b k .byte 16 (fun i => if N ≤ i ∧ i < N + m then (fun i => .int (f i)) (0 + (i - N)) else g i)) := by
  refine k_body (hEW hw) (f := (fun m => mkF m 0 #[.val (.ref s), .val (.ref b), .val (.int zN), .val (.int (0 : Int32))] [])) pn_20 (fun m => by first | (simp [entryFrame, mkF, argsToLocals, Value.category, maxLocals]; done) | rfl) ?_
  intro Γ T G X
  have ge_b := gm_b.1
  obtain ⟨SE, SC, SV, SA⟩ := id SS
  have KP := Keep.refl h0 [b]
  show Go Γ n0 _ T (mkF Γ.m 0 #[.val (.ref s), .val (.ref b), .val (.int zN), .val (.int (0 : Int32))] [])
  refine k_aloadN G X d20_0 (pc' := 1) rfl rfl rfl ?_
  refine k_callV G X (argsL := []) (rest := []) rfl SE (w91 hw) (w92 hw) (nf_sel (w94 hw)) (w94 hw) (w93 hw) (w6 hw) (w95 hw) (by decide) (str_cod1 hw s d kd m zm cs f h0 n0 _ SS hm S_CS hcs) d20_1 pd5 rfl (pc' := 4) rfl rfl (wd := 0) rfl (by decide) (by decide) (by decide) (by decide) (fun T h1 v sf1 X q => ?_)
  replace X := W.drop X
  obtain ⟨rfl, e1⟩ := q
  replace X := X.eq e1
  show Go Γ n0 _ T (mkF Γ.m 4 #[.val (.ref s), .val (.ref b), .val (.int zN), .val (.int (0 : Int32))] [(.int (0 : Int32))])
  refine k_iloadN G X d20_4 (pc' := 5) rfl rfl ?_
  refine k_icmp_ne G X d20_5 (pc' := 28) rfl (by decide) (pc'' := 8) rfl (fun c5 => (absurd c5 (by decide))) (fun c5 => ?_)
  refine k_aloadN G X d20_8 (pc' := 9) rfl rfl rfl ?_
  refine k_getF G X (host := "") (Or.inl (w32 hw)) Via.refl SV d20_9 (pc' := 12) rfl (fun T X => ?_)
  refine k_iconst G X d20_12 (pc' := 13) rfl (z := (0 : Int32)) (by decide) ?_
  refine k_aloadN G X d20_13 (pc' := 14) rfl rfl rfl ?_
  refine k_iloadN G X d20_14 (pc' := 15) rfl rfl ?_
  refine k_iloadN G X d20_15 (pc' := 16) rfl rfl ?_
  refine k_ishl G X d20_16 (pc' := 17) rfl rfl ?_
  rw [shl0 zN]
  refine k_aloadN G X d20_17 (pc' := 18) rfl rfl rfl ?_
  refine k_getF G X (host := "") (Or.inl (w32 hw)) Via.refl SV d20_18 (pc' := 21) rfl (fun T X => ?_)
  refine k_alen G X (z := zm) SA hm d20_21 (pc' := 22) rfl ?_
  refine k_copy G X (sp := 0) (dp := N) (nn := m) SA B rfl (w119 hw) (w122 hw) (w120 hw) (w121 hw) rfl hN hm (by omega) (by omega) ge_b (List.mem_append_right [] gm_b.2) d20_22 (pc' := 25) rfl rfl (by decide) (wd := 0) rfl (by decide) (fun T h22 K22 B' X => ?_)
  replace S_CS := Sta_keepL S_CS K22 (allS (Pln_arf B) (all0))
  replace SE := SE.keep K22
  replace SC := SC.keep K22 (by simp only [List.mem_cons, List.not_mem_nil, or_false, not_or]; exact ne_s_b)
  replace SV := SV.keep K22 (by simp only [List.mem_cons, List.not_mem_nil, or_false, not_or]; exact ne_s_b)
  replace SA := SA.keep K22 (by simp only [List.mem_cons, List.not_mem_nil, or_false, not_or]; exact ne_d_b)
  replace KP := KP.trans K22 (allS (Or.inl (List.mem_of_getElem? (i := 0) rfl)) (all0))
  have B := B'
  refine k_goto G X d20_25 (by decide) (pc' := 43) rfl ?_
  refine k_retv G X d20_43 rfl ?_ (by decide) (by decide)
  exact ⟨rfl, KP, B⟩
theorem pn_19 : plainFor (⟨"java/lang/AbstractStringBuilder", "inflateIfNeededFor", "(Ljava/lang/String;)V"⟩ : MethodName) = true := plainFor_of_name (by first | (simp [plainName, overriddenIn]; done) | decide +kernel)
set_option maxRecDepth 65536 in
set_option maxHeartbeats 40000000 in
theorem sb_inf {Z : State} {a0 : Array Value} (hw : HW a0 Z) (o s d : Addr) (kd : ClassId) (m : Nat) (zm cs : Int32) (f : Nat → Int32) (h0 : Heap) (n0 : Nat) (sf0 : List Addr) (SS : Str Z h0 s d kd m f) (hm : zm.toInt = m) (S_CS : Sta Z h0 "java/lang/String" "COMPACT_STRINGS" "Z" (.int cs)) (hcs : cs ≠ 0) (FC : Fld Z h0 o "java/lang/AbstractStringBuilder" "coder" "B" (.int (0 : Int32))) :
    MetW Z consts_1 sf0 (⟨"java/lang/AbstractStringBuilder", "inflateIfNeededFor", "(Ljava/lang/String;)V"⟩ : MethodName) jdk_68_method_71_code 2 none [] ({ frames := 1, cells := 0, slots := 0, locals := 13 } : Room) #[(.ref o), (.ref s)] h0 n0 (fun v h sf => v = none ∧ h = h0) := by
  refine k_body (hEW hw) (f := (fun m => mkF m 0 #[.val (.ref o), .val (.ref s)] [])) pn_19 (fun m => by first | (simp [entryFrame, mkF, argsToLocals, Value.category, maxLocals]; done) | rfl) ?_
  intro Γ T G X
  obtain ⟨SE, SC, SV, SA⟩ := id SS
  show Go Γ n0 _ T (mkF Γ.m 0 #[.val (.ref o), .val (.ref s)] [])
  refine k_getS G X (host := "") (Or.inl (w71 hw)) Via.refl S_CS d19_0 (pc' := 3) rfl (fun T X => ?_)
  refine k_if_eq G X d19_3 (pc' := 21) rfl (by decide) (pc'' := 6) rfl (fun c3 => (absurd c3 hcs)) (fun c3 => ?_)
  refine k_aloadN G X d19_6 (pc' := 7) rfl rfl rfl ?_
  refine k_getF G X (host := "") (Or.inl (w74 hw)) Via.refl FC d19_7 (pc' := 10) rfl (fun T X => ?_)
  refine k_aloadN G X d19_10 (pc' := 11) rfl rfl rfl ?_
  refine k_callV G X (argsL := []) (rest := [(.int (0 : Int32))]) rfl SE (w113 hw) (w92 hw) (nf_sel (w94 hw)) (w94 hw) (w93 hw) (w6 hw) (w95 hw) (by decide) (str_cod1 hw s d kd m zm cs f h0 n0 _ SS hm S_CS hcs) d19_11 pd5 rfl (pc' := 14) rfl rfl (wd := 1) rfl (by decide) (by decide) (by decide) (by decide) (fun T h11 v sf11 X q => ?_)
  replace X := W.drop X
  obtain ⟨rfl, e11⟩ := q
  replace X := X.eq e11
  show Go Γ n0 _ T (mkF Γ.m 14 #[.val (.ref o), .val (.ref s)] [(.int (0 : Int32)), (.int (0 : Int32))])
  refine k_icmp_eq G X d19_14 (pc' := 21) rfl (by decide) (pc'' := 17) rfl (fun c14 => ?_) (fun c14 => (absurd c14 (by decide)))
  refine k_retv G X d19_21 rfl ?_ (by decide) (by decide)
  exact ⟨rfl, rfl⟩
theorem pn_18 : plainFor (⟨"java/lang/AbstractStringBuilder", "putStringAt", "(ILjava/lang/String;)V"⟩ : MethodName) = true := plainFor_of_name (by first | (simp [plainName, overriddenIn]; done) | decide +kernel)
set_option maxRecDepth 65536 in
set_option maxHeartbeats 40000000 in
theorem sb_put {Z : State} {a0 : Array Value} (hw : HW a0 Z) (o s d b : Addr) (kd k : ClassId) (m N : Nat) (zm zN cs : Int32) (f : Nat → Int32) (g : Nat → Value) (h0 : Heap) (n0 : Nat) (sf0 : List Addr) (SS : Str Z h0 s d kd m f) (hm : zm.toInt = m) (S_CS : Sta Z h0 "java/lang/String" "COMPACT_STRINGS" "Z" (.int cs)) (hcs : cs ≠ 0) (B : Arf Z h0 b k .byte 16 g) (gm_b : n0 ≤ b ∧ b ∈ sf0) (hN : zN.toInt = N) (hfit : N + m ≤ 16) (ne_d_b : d ≠ b) (ne_s_b : s ≠ b) (gm_o : n0 ≤ o ∧ o ∈ sf0) (E : Exa Z h0 o "java/lang/StringBuilder") (FV : Fld Z h0 o "java/lang/AbstractStringBuilder" "value" "[B" (.ref b)) (FC : Fld Z h0 o "java/lang/AbstractStringBuilder" "coder" "B" (.int (0 : Int32))) (ne_b_o : b ≠ o) (ne_s_o : s ≠ o) (ne_d_o : d ≠ o) :
    MetW Z consts_1 sf0 (⟨"java/lang/AbstractStringBuilder", "putStringAt", "(ILjava/lang/String;)V"⟩ : MethodName) jdk_68_method_73_code 3 none [] ({ frames := 2, cells := 0, slots := 0, locals := 33 } : Room) #[(.ref o), (.int zN), (.ref s)] h0 n0 (fun v h sf => v = none ∧ Keep h0 h [b] ∧ Arf Z h b k .byte 16 (fun i => if N ≤ i ∧ i < N + m then (fun i => .int (f i)) (0 + (i - N)) else g i)) := by
  refine k_body (hEW hw) (f := (fun m => mkF m 0 #[.val (.ref o), .val (.int zN), .val (.ref s)] [])) pn_18 (fun m => by first | (simp [entryFrame, mkF, argsToLocals, Value.category, maxLocals]; done) | rfl) ?_
  intro Γ T G X
  have ge_b := gm_b.1
  have ge_o := gm_o.1
  obtain ⟨SE, SC, SV, SA⟩ := id SS
  have KP := Keep.refl h0 [b]
  show Go Γ n0 _ T (mkF Γ.m 0 #[.val (.ref o), .val (.int zN), .val (.ref s)] [])
  refine k_aloadN G X d18_0 (pc' := 1) rfl rfl rfl ?_
  refine k_aloadN G X d18_1 (pc' := 2) rfl rfl rfl ?_
  refine k_callP G X (argsL := [(.ref s)]) (rest := []) rfl E (w108 hw) (w109 hw) (selQ (w111 hw) (w110 hw) (w109 hw) (by decide)) (w110 hw) (w68 hw) (w112 hw) (by decide) (sb_inf hw o s d kd m zm cs f h0 n0 _ SS hm S_CS hcs FC) d18_2 pd7 rfl (pc' := 5) rfl rfl (wd := 0) rfl (by decide) (by decide) (by decide) (by decide) (fun T h2 v sf2 X q => ?_)
  replace X := W.drop X
  obtain ⟨rfl, e2⟩ := q
  replace X := X.eq e2
  show Go Γ n0 _ T (mkF Γ.m 5 #[.val (.ref o), .val (.int zN), .val (.ref s)] [])
  refine k_aloadN G X d18_5 (pc' := 6) rfl rfl rfl ?_
  refine k_aloadN G X d18_6 (pc' := 7) rfl rfl rfl ?_
  refine k_getF G X (host := "") (Or.inl (w72 hw)) Via.refl FV d18_7 (pc' := 10) rfl (fun T X => ?_)
  refine k_iloadN G X d18_10 (pc' := 11) rfl rfl ?_
  refine k_aloadN G X d18_11 (pc' := 12) rfl rfl rfl ?_
  refine k_getF G X (host := "") (Or.inl (w74 hw)) Via.refl FC d18_12 (pc' := 15) rfl (fun T X => ?_)
  refine k_callV G X (argsL := [(.ref b), (.int zN), (.int (0 : Int32))]) (rest := []) rfl SE (w114 hw) (w115 hw) (nf_sel (w117 hw)) (w117 hw) (w116 hw) (w6 hw) (w118 hw) (by decide) (sb_gb hw s d b kd k m N zm zN cs f g h0 n0 _ SS hm S_CS hcs B ⟨ge_b, (List.mem_append_right [] gm_b.2)⟩ hN hfit ne_d_b ne_s_b) d18_15 pd8 rfl (pc' := 18) rfl rfl (wd := 0) rfl (by decide) (by decide) (by decide) (by decide) (fun T h15 v sf15 X q => ?_)
  replace X := W.drop X
  obtain ⟨rfl, K15, B'⟩ := q
  replace S_CS := Sta_keepL S_CS K15 (allS (Pln_arf B) (all0))
  replace SE := SE.keep K15
  replace SC := SC.keep K15 (by simp only [List.mem_cons, List.not_mem_nil, or_false, not_or]; exact ne_s_b)
  replace SV := SV.keep K15 (by simp only [List.mem_cons, List.not_mem_nil, or_false, not_or]; exact ne_s_b)
  replace SA := SA.keep K15 (by simp only [List.mem_cons, List.not_mem_nil, or_false, not_or]; exact ne_d_b)
  replace SS := SS.keep K15 (by simp only [List.mem_cons, List.not_mem_nil, or_false, not_or]; exact ne_s_b) (by simp only [List.mem_cons, List.not_mem_nil, or_false, not_or]; exact ne_d_b)
  replace E := E.keep K15
  replace FV := FV.keep K15 (by simp only [List.mem_cons, List.not_mem_nil, or_false, not_or]; exact (Ne.symm ne_b_o))
  replace FC := FC.keep K15 (by simp only [List.mem_cons, List.not_mem_nil, or_false, not_or]; exact (Ne.symm ne_b_o))
  replace KP := KP.trans K15 (allS (Or.inl (List.mem_of_getElem? (i := 0) rfl)) (all0))
  show Go Γ n0 _ T (mkF Γ.m 18 #[.val (.ref o), .val (.int zN), .val (.ref s)] [])
  refine k_retv G X d18_18 rfl ?_ (by decide) (by decide)
  exact ⟨rfl, KP, B'⟩
theorem pn_17 : plainFor (⟨"java/lang/AbstractStringBuilder", "ensureCapacityInternal", "(I)V"⟩ : MethodName) = true := plainFor_of_name (by first | (simp [plainName, overriddenIn]; done) | decide +kernel)
set_option maxRecDepth 65536 in
set_option maxHeartbeats 40000000 in
theorem sb_ens {Z : State} {a0 : Array Value} (hw : HW a0 Z) (o b : Addr) (k : ClassId) (z : Int32) (g : Nat → Value) (h0 : Heap) (n0 : Nat) (sf0 : List Addr) (FV : Fld Z h0 o "java/lang/AbstractStringBuilder" "value" "[B" (.ref b)) (FC : Fld Z h0 o "java/lang/AbstractStringBuilder" "coder" "B" (.int (0 : Int32))) (B : Arf Z h0 b k .byte 16 g) (h0z : 0 ≤ z.toInt) (hz : z.toInt ≤ 16) :
    MetW Z consts_1 sf0 (⟨"java/lang/AbstractStringBuilder", "ensureCapacityInternal", "(I)V"⟩ : MethodName) jdk_68_method_9_code 3 none [] ({ frames := 0, cells := 0, slots := 0, locals := 0 } : Room) #[(.ref o), (.int z)] h0 n0 (fun v h sf => v = none ∧ h = h0) := by
  refine k_body (hEW hw) (f := (fun m => mkF m 0 #[.val (.ref o), .val (.int z), .unset] [])) pn_17 (fun m => by first | (simp [entryFrame, mkF, argsToLocals, Value.category, maxLocals]; done) | rfl) ?_
  intro Γ T G X
  show Go Γ n0 _ T (mkF Γ.m 0 #[.val (.ref o), .val (.int z), .unset] [])
  refine k_aloadN G X d17_0 (pc' := 1) rfl rfl rfl ?_
  refine k_getF G X (host := "") (Or.inl (w72 hw)) Via.refl FV d17_1 (pc' := 4) rfl (fun T X => ?_)
  refine k_alen G X (z := (16 : Int32)) B rfl d17_4 (pc' := 5) rfl ?_
  refine k_aloadN G X d17_5 (pc' := 6) rfl rfl rfl ?_
  refine k_getF G X (host := "") (Or.inl (w74 hw)) Via.refl FC d17_6 (pc' := 9) rfl (fun T X => ?_)
  refine k_ishr G X d17_9 (pc' := 10) rfl (z := (16 : Int32)) (by decide) ?_
  refine k_istoreN G X d17_10 (pc' := 11) rfl (l' := #[.val (.ref o), .val (.int z), .val (.int (16 : Int32))]) rfl ?_
  refine k_iloadN G X d17_11 (pc' := 12) rfl rfl ?_
  refine k_iloadN G X d17_12 (pc' := 13) rfl rfl ?_
  refine k_isub G X d17_13 (pc' := 14) rfl rfl ?_
  refine k_if_le G X d17_14 (pc' := 38) rfl (by decide) (pc'' := 17) rfl (fun c14 => ?_) (fun c14 => (absurd c14 (by rw [isub_toInt (by rw [show (16 : Int32).toInt = 16 from rfl]; omega) (by rw [show (16 : Int32).toInt = 16 from rfl]; omega), show (16 : Int32).toInt = 16 from rfl]; omega)))
  refine k_retv G X d17_38 rfl ?_ (by decide) (by decide)
  exact ⟨rfl, rfl⟩
theorem pn_14 : plainFor (⟨"java/lang/AbstractStringBuilder", "append", "(Ljava/lang/String;)Ljava/lang/AbstractStringBuilder;"⟩ : MethodName) = true := plainFor_of_name (by first | (simp [plainName, overriddenIn]; done) | decide +kernel)
set_option maxRecDepth 65536 in
set_option maxHeartbeats 40000000 in
theorem sb_ap {Z : State} {a0 : Array Value} (hw : HW a0 Z) (o s d b : Addr) (kd k : ClassId) (m N : Nat) (zm zN cs : Int32) (f : Nat → Int32) (g : Nat → Value) (h0 : Heap) (n0 : Nat) (sf0 : List Addr) (SS : Str Z h0 s d kd m f) (hm : zm.toInt = m) (S_CS : Sta Z h0 "java/lang/String" "COMPACT_STRINGS" "Z" (.int cs)) (hcs : cs ≠ 0) (B : Arf Z h0 b k .byte 16 g) (gm_b : n0 ≤ b ∧ b ∈ sf0) (hN : zN.toInt = N) (hfit : N + m ≤ 16) (ne_d_b : d ≠ b) (ne_s_b : s ≠ b) (gm_o : n0 ≤ o ∧ o ∈ sf0) (E : Exa Z h0 o "java/lang/StringBuilder") (FV : Fld Z h0 o "java/lang/AbstractStringBuilder" "value" "[B" (.ref b)) (FC : Fld Z h0 o "java/lang/AbstractStringBuilder" "coder" "B" (.int (0 : Int32))) (ne_b_o : b ≠ o) (ne_s_o : s ≠ o) (ne_d_o : d ≠ o) (FN : Fld Z h0 o "java/lang/AbstractStringBuilder" "count" "I" (.int zN)) :
    MetW Z consts_1 sf0 (⟨"java/lang/AbstractStringBuilder", "append", "(Ljava/lang/String;)Ljava/lang/AbstractStringBuilder;"⟩ : MethodName) jdk_68_method_22_code 3 (some (.object "java/lang/AbstractStringBuilder")) [] ({ frames := 3, cells := 0, slots := 0, locals := 47 } : Room) #[(.ref o), (.ref s)] h0 n0 (fun v h sf => v = some (.ref o) ∧ Keep h0 h [o, b] ∧ Exa Z h o "java/lang/StringBuilder" ∧ Fld Z h o "java/lang/AbstractStringBuilder" "value" "[B" (.ref b) ∧ Fld Z h o "java/lang/AbstractStringBuilder" "coder" "B" (.int (0 : Int32)) ∧ Fld Z h o "java/lang/AbstractStringBuilder" "count" "I" (.int (zN + zm)) ∧ Arf Z h b k .byte 16 (fun i => if N ≤ i ∧ i < N + m then (fun i => .int (f i)) (0 + (i - N)) else g i)) := by
  refine k_body (hEW hw) (f := (fun m => mkF m 0 #[.val (.ref o), .val (.ref s), .unset] [])) pn_14 (fun m => by first | (simp [entryFrame, mkF, argsToLocals, Value.category, maxLocals]; done) | rfl) ?_
  intro Γ T G X
  have ge_b := gm_b.1
  have ge_o := gm_o.1
  obtain ⟨SE, SC, SV, SA⟩ := id SS
  have KP := Keep.refl h0 [o, b]
  have hNm : (zN + zm).toInt = (N + m : Nat) := by rw [iadd_toInt (by omega) (by omega)]; omega
  show Go Γ n0 _ T (mkF Γ.m 0 #[.val (.ref o), .val (.ref s), .unset] [])
  refine k_aloadN G X d14_0 (pc' := 1) rfl rfl rfl ?_
  refine k_ifnonnull G X d14_1 (pc' := 9) rfl (by decide) (pc'' := 4) rfl rfl (fun _ c1 => ?_) (fun c1 => (absurd c1 (by simp)))
  refine k_aloadN G X d14_9 (pc' := 10) rfl rfl rfl ?_
  refine k_callV G X (argsL := []) (rest := []) rfl SE (w86 hw) (w87 hw) (nf_sel (w89 hw)) (w89 hw) (w88 hw) (w6 hw) (w90 hw) (by decide) (str_len hw s d kd m zm cs f h0 n0 _ SS hm S_CS hcs) d14_10 pd9 rfl (pc' := 13) rfl rfl (wd := 0) rfl (by decide) (by decide) (by decide) (by decide) (fun T h10 v sf10 X q => ?_)
  replace X := W.drop X
  obtain ⟨rfl, e10⟩ := q
  replace X := X.eq e10
  show Go Γ n0 _ T (mkF Γ.m 13 #[.val (.ref o), .val (.ref s), .unset] [(.int zm)])
  refine k_istoreN G X d14_13 (pc' := 14) rfl (l' := #[.val (.ref o), .val (.ref s), .val (.int zm)]) rfl ?_
  refine k_aloadN G X d14_14 (pc' := 15) rfl rfl rfl ?_
  refine k_aloadN G X d14_15 (pc' := 16) rfl rfl rfl ?_
  refine k_getF G X (host := "") (Or.inl (w96 hw)) Via.refl FN d14_16 (pc' := 19) rfl (fun T X => ?_)
  refine k_iloadN G X d14_19 (pc' := 20) rfl rfl ?_
  refine k_iadd G X d14_20 (pc' := 21) rfl rfl ?_
  refine k_callP G X (argsL := [(.int (zN + zm))]) (rest := []) rfl E (w98 hw) (w99 hw) (selQ (w101 hw) (w100 hw) (w99 hw) (by decide)) (w100 hw) (w68 hw) (w102 hw) (by decide) (sb_ens hw o b k (zN + zm) g h0 n0 _ FV FC B (by rw [hNm]; omega) (by rw [hNm]; omega)) d14_21 pd6 rfl (pc' := 24) rfl rfl (wd := 0) rfl (by decide) (by decide) (by decide) (by decide) (fun T h21 v sf21 X q => ?_)
  replace X := W.drop X
  obtain ⟨rfl, e21⟩ := q
  replace X := X.eq e21
  show Go Γ n0 _ T (mkF Γ.m 24 #[.val (.ref o), .val (.ref s), .val (.int zm)] [])
  refine k_aloadN G X d14_24 (pc' := 25) rfl rfl rfl ?_
  refine k_aloadN G X d14_25 (pc' := 26) rfl rfl rfl ?_
  refine k_getF G X (host := "") (Or.inl (w96 hw)) Via.refl FN d14_26 (pc' := 29) rfl (fun T X => ?_)
  refine k_aloadN G X d14_29 (pc' := 30) rfl rfl rfl ?_
  refine k_callP G X (argsL := [(.int zN), (.ref s)]) (rest := []) rfl E (w103 hw) (w104 hw) (selQ (w106 hw) (w105 hw) (w104 hw) (by decide)) (w105 hw) (w68 hw) (w107 hw) (by decide) (sb_put hw o s d b kd k m N zm zN cs f g h0 n0 _ SS hm S_CS hcs B ⟨ge_b, (List.mem_append_right [] gm_b.2)⟩ hN hfit ne_d_b ne_s_b ⟨ge_o, (List.mem_append_right [] gm_o.2)⟩ E FV FC ne_b_o ne_s_o ne_d_o) d14_30 pd10 rfl (pc' := 33) rfl rfl (wd := 0) rfl (by decide) (by decide) (by decide) (by decide) (fun T h30 v sf30 X q => ?_)
  replace X := W.drop X
  obtain ⟨rfl, K30, B'⟩ := q
  replace S_CS := Sta_keepL S_CS K30 (allS (Pln_arf B) (all0))
  replace SE := SE.keep K30
  replace SC := SC.keep K30 (by simp only [List.mem_cons, List.not_mem_nil, or_false, not_or]; exact ne_s_b)
  replace SV := SV.keep K30 (by simp only [List.mem_cons, List.not_mem_nil, or_false, not_or]; exact ne_s_b)
  replace SA := SA.keep K30 (by simp only [List.mem_cons, List.not_mem_nil, or_false, not_or]; exact ne_d_b)
  replace SS := SS.keep K30 (by simp only [List.mem_cons, List.not_mem_nil, or_false, not_or]; exact ne_s_b) (by simp only [List.mem_cons, List.not_mem_nil, or_false, not_or]; exact ne_d_b)
  replace E := E.keep K30
  replace FV := FV.keep K30 (by simp only [List.mem_cons, List.not_mem_nil, or_false, not_or]; exact (Ne.symm ne_b_o))
  replace FC := FC.keep K30 (by simp only [List.mem_cons, List.not_mem_nil, or_false, not_or]; exact (Ne.symm ne_b_o))
  replace FN := FN.keep K30 (by simp only [List.mem_cons, List.not_mem_nil, or_false, not_or]; exact (Ne.symm ne_b_o))
  replace KP := KP.trans K30 (allS (Or.inl (List.mem_of_getElem? (i := 1) rfl)) (all0))
  have B := B'
  show Go Γ n0 _ T (mkF Γ.m 33 #[.val (.ref o), .val (.ref s), .val (.int zm)] [])
  refine k_aloadN G X d14_33 (pc' := 34) rfl rfl rfl ?_
  refine k_dup G X d14_34 (pc' := 35) rfl rfl ?_
  refine k_getF G X (host := "") (Or.inl (w96 hw)) Via.refl FN d14_35 (pc' := 38) rfl (fun T X => ?_)
  refine k_iloadN G X d14_38 (pc' := 39) rfl rfl ?_
  refine k_iadd G X d14_39 (pc' := 40) rfl rfl ?_
  refine k_putF G X (host := "") (Or.inl (w96 hw)) Via.refl FN E (Or.inl (w97 hw)) (w59 hw) (ty := .int) (by decide) rfl rfl ge_o (List.mem_append_right [] gm_o.2) d14_40 (pc' := 43) rfl (fun T h40 W40 X => ?_)
  replace SE := SE.wr W40
  replace SC := SC.other W40 (Or.inl ne_s_o)
  replace SV := SV.other W40 (Or.inl ne_s_o)
  replace SA := SA.other W40 ne_d_o
  replace S_CS := S_CS.wr W40
  replace SS := SS.other W40 ne_s_o ne_d_o
  replace E := E.wr W40
  replace FV := FV.other W40 (Or.inr (slot_ne (Or.inl (w73 hw)) (Or.inl (w97 hw)) (by decide) (t := (.array .byte)) (t' := .int) (by decide) (by decide)))
  replace FC := FC.other W40 (Or.inr (slot_ne (Or.inl (w75 hw)) (Or.inl (w97 hw)) (by decide) (t := .byte) (t' := .int) (by decide) (by decide)))
  replace FN := FN.same W40
  replace KP := KP.wr W40 (Or.inl (List.mem_of_getElem? (i := 0) rfl))
  replace B := B.other W40 ne_b_o
  refine k_aloadN G X d14_43 (pc' := 44) rfl rfl rfl ?_
  refine k_reta G X d14_44 (t := (.object "java/lang/AbstractStringBuilder")) rfl rfl rfl ?_ (by decide) (by decide)
  exact ⟨rfl, KP, E, FV, FC, FN, B⟩
theorem pn_13 : plainFor (⟨"java/lang/StringBuilder", "append", "(Ljava/lang/String;)Ljava/lang/StringBuilder;"⟩ : MethodName) = true := plainFor_of_name (by first | (simp [plainName, overriddenIn]; done) | decide +kernel)
set_option maxRecDepth 65536 in
set_option maxHeartbeats 40000000 in
theorem sb_app {Z : State} {a0 : Array Value} (hw : HW a0 Z) (o s d b : Addr) (kd k : ClassId) (m N : Nat) (zm zN cs : Int32) (f : Nat → Int32) (g : Nat → Value) (h0 : Heap) (n0 : Nat) (sf0 : List Addr) (SS : Str Z h0 s d kd m f) (hm : zm.toInt = m) (S_CS : Sta Z h0 "java/lang/String" "COMPACT_STRINGS" "Z" (.int cs)) (hcs : cs ≠ 0) (B : Arf Z h0 b k .byte 16 g) (gm_b : n0 ≤ b ∧ b ∈ sf0) (hN : zN.toInt = N) (hfit : N + m ≤ 16) (ne_d_b : d ≠ b) (ne_s_b : s ≠ b) (gm_o : n0 ≤ o ∧ o ∈ sf0) (E : Exa Z h0 o "java/lang/StringBuilder") (FV : Fld Z h0 o "java/lang/AbstractStringBuilder" "value" "[B" (.ref b)) (FC : Fld Z h0 o "java/lang/AbstractStringBuilder" "coder" "B" (.int (0 : Int32))) (ne_b_o : b ≠ o) (ne_s_o : s ≠ o) (ne_d_o : d ≠ o) (FN : Fld Z h0 o "java/lang/AbstractStringBuilder" "count" "I" (.int zN)) :
    MetW Z consts_1 sf0 (⟨"java/lang/StringBuilder", "append", "(Ljava/lang/String;)Ljava/lang/StringBuilder;"⟩ : MethodName) jdk_67_method_7_code 2 (some (.object "java/lang/StringBuilder")) [] ({ frames := 4, cells := 0, slots := 0, locals := 61 } : Room) #[(.ref o), (.ref s)] h0 n0 (fun v h sf => v = some (.ref o) ∧ Keep h0 h [o, b] ∧ Exa Z h o "java/lang/StringBuilder" ∧ Fld Z h o "java/lang/AbstractStringBuilder" "value" "[B" (.ref b) ∧ Fld Z h o "java/lang/AbstractStringBuilder" "coder" "B" (.int (0 : Int32)) ∧ Fld Z h o "java/lang/AbstractStringBuilder" "count" "I" (.int (zN + zm)) ∧ Arf Z h b k .byte 16 (fun i => if N ≤ i ∧ i < N + m then (fun i => .int (f i)) (0 + (i - N)) else g i)) := by
  refine k_body (hEW hw) (f := (fun m => mkF m 0 #[.val (.ref o), .val (.ref s)] [])) pn_13 (fun m => by first | (simp [entryFrame, mkF, argsToLocals, Value.category, maxLocals]; done) | rfl) ?_
  intro Γ T G X
  have ge_b := gm_b.1
  have ge_o := gm_o.1
  obtain ⟨SE, SC, SV, SA⟩ := id SS
  have KP := Keep.refl h0 [o, b]
  have hNm : (zN + zm).toInt = (N + m : Nat) := by rw [iadd_toInt (by omega) (by omega)]; omega
  show Go Γ n0 _ T (mkF Γ.m 0 #[.val (.ref o), .val (.ref s)] [])
  refine k_aloadN G X d13_0 (pc' := 1) rfl rfl rfl ?_
  refine k_aloadN G X d13_1 (pc' := 2) rfl rfl rfl ?_
  refine k_callU G X (argsL := [(.ref s)]) (rest := []) rfl (Ins.self E) (w81 hw) (smD (w82 hw) ((nf_sib (y := (⟨"java/lang/AbstractStringBuilder", "append", "(Ljava/lang/String;)Ljava/lang/AbstractStringBuilder;"⟩ : MethodName)) (w101 hw) (w99 hw) rfl) Z (State.Warmed39.refl Z)) (by decide)) (w82 hw) (w83 hw) (by decide) (w68 hw) (w85 hw) (sb_ap hw o s d b kd k m N zm zN cs f g h0 n0 _ SS hm S_CS hcs B ⟨ge_b, (List.mem_append_right [] gm_b.2)⟩ hN hfit ne_d_b ne_s_b ⟨ge_o, (List.mem_append_right [] gm_o.2)⟩ E FV FC ne_b_o ne_s_o ne_d_o FN) d13_2 pd11 rfl (pc' := 5) rfl rfl (wd := 0) rfl (by decide) (by decide) (by decide) (by decide) (fun T h2 v sf2 X q => ?_)
  replace X := W.drop X
  obtain ⟨rfl, q⟩ := q
  show Go Γ n0 _ T (mkF Γ.m 5 #[.val (.ref o), .val (.ref s)] [(.ref o)])
  refine k_pop G X d13_5 (pc' := 6) rfl rfl ?_
  refine k_aloadN G X d13_6 (pc' := 7) rfl rfl rfl ?_
  refine k_reta G X d13_7 (t := (.object "java/lang/StringBuilder")) rfl rfl rfl ?_ (by decide) (by decide)
  exact ⟨rfl, q⟩
theorem pn_30 : plainFor (⟨"java/util/Arrays", "checkLength", "(II)V"⟩ : MethodName) = true := plainFor_of_name (by first | (simp [plainName, overriddenIn]; done) | decide +kernel)
set_option maxRecDepth 65536 in
set_option maxHeartbeats 40000000 in
theorem ar_chk {Z : State} {a0 : Array Value} (hw : HW a0 Z) (z : Int32) (h0 : Heap) (n0 : Nat) (sf0 : List Addr) (h0z : 0 ≤ z.toInt) :
    MetW Z consts_1 sf0 (⟨"java/util/Arrays", "checkLength", "(II)V"⟩ : MethodName) jdk_65_method_131_code 2 none [] ({ frames := 0, cells := 0, slots := 0, locals := 0 } : Room) #[(.int (0 : Int32)), (.int z)] h0 n0 (fun v h sf => v = none ∧ h = h0) := by
  refine k_body (hEW hw) (f := (fun m => mkF m 0 #[.val (.int (0 : Int32)), .val (.int z)] [])) pn_30 (fun m => by first | (simp [entryFrame, mkF, argsToLocals, Value.category, maxLocals]; done) | rfl) ?_
  intro Γ T G X
  show Go Γ n0 _ T (mkF Γ.m 0 #[.val (.int (0 : Int32)), .val (.int z)] [])
  refine k_iloadN G X d30_0 (pc' := 1) rfl rfl ?_
  refine k_iloadN G X d30_1 (pc' := 2) rfl rfl ?_
  refine k_icmp_ge G X d30_2 (pc' := 37) rfl (by decide) (pc'' := 5) rfl (fun c2 => ?_) (fun c2 => (absurd c2 (by have := z32; omega)))
  refine k_retv G X d30_37 rfl ?_ (by decide) (by decide)
  exact ⟨rfl, rfl⟩
theorem pn_31 : plainFor (⟨"java/lang/Math", "min", "(II)I"⟩ : MethodName) = true := Jvm.Free.JP.mathPlain rfl (by decide +kernel)
set_option maxRecDepth 65536 in
set_option maxHeartbeats 40000000 in
theorem m_min {Z : State} {a0 : Array Value} (hw : HW a0 Z) (a b : Int32) (h0 : Heap) (n0 : Nat) (sf0 : List Addr) :
    MetW Z consts_1 sf0 (⟨"java/lang/Math", "min", "(II)I"⟩ : MethodName) jdk_29_method_69_code 2 (some .int) [] ({ frames := 0, cells := 0, slots := 0, locals := 0 } : Room) #[(.int a), (.int b)] h0 n0 (fun v h sf => ∃ r : Int32, v = some (.int r) ∧ (b.toInt ≤ a.toInt → r.toInt = b.toInt) ∧ (a.toInt < b.toInt → r.toInt = a.toInt) ∧ h = h0) := by
  refine k_body (hEW hw) (f := (fun m => mkF m 0 #[.val (.int a), .val (.int b)] [])) pn_31 (fun m => by first | (simp [entryFrame, mkF, argsToLocals, Value.category, maxLocals]; done) | rfl) ?_
  intro Γ T G X
  show Go Γ n0 _ T (mkF Γ.m 0 #[.val (.int a), .val (.int b)] [])
  refine k_iloadN G X d31_0 (pc' := 1) rfl rfl ?_
  refine k_iloadN G X d31_1 (pc' := 2) rfl rfl ?_
  refine k_icmp_gt G X d31_2 (pc' := 9) rfl (by decide) (pc'' := 5) rfl (fun c2 => ?_) (fun c2 => ?_)
  · refine k_iloadN G X d31_9 (pc' := 10) rfl rfl ?_
    refine k_reti G X d31_10 rfl ?_ (by decide) (by decide)
    exact ⟨_, rfl, by intros; first | rfl | omega, by intros; first | rfl | omega, rfl⟩
  · refine k_iloadN G X d31_5 (pc' := 6) rfl rfl ?_
    refine k_goto G X d31_6 (by decide) (pc' := 10) rfl ?_
    refine k_reti G X d31_10 rfl ?_ (by decide) (by decide)
    exact ⟨_, rfl, by intros; first | rfl | omega, by intros; first | rfl | omega, rfl⟩
theorem pn_29 : plainFor (⟨"java/util/Arrays", "copyOfRangeByte", "([BII)[B"⟩ : MethodName) = true := plainFor_of_name (by first | (simp [plainName, overriddenIn]; done) | decide +kernel)
set_option maxRecDepth 65536 in
set_option maxHeartbeats 40000000 in
theorem ar_cpb {Z : State} {a0 : Array Value} (hw : HW a0 Z) (b : Addr) (k : ClassId) (cap N : Nat) (zC zN : Int32) (g : Nat → Value) (h0 : Heap) (n0 : Nat) (sf0 : List Addr) (O : Old Z n0 h0) (B : Arf Z h0 b k .byte cap g) (hC : zC.toInt = cap) (hN : zN.toInt = N) (hNc : N ≤ cap) (hNb : N ≤ 5) (hne : N ≠ cap) :
    MetW Z consts_1 sf0 (⟨"java/util/Arrays", "copyOfRangeByte", "([BII)[B"⟩ : MethodName) jdk_65_method_133_code 5 (some (.array .byte)) [] ({ frames := 1, cells := 1, slots := 5, locals := 18 } : Room) #[(.ref b), (.int (0 : Int32)), (.int zN)] h0 n0 (fun v h sf => ∃ r kr, v = some (.ref r) ∧ h0.size ≤ r ∧ Keep h0 h [] ∧ Arf Z h r kr .byte N g) := by
  refine k_body (hEW hw) (f := (fun m => mkF m 0 #[.val (.ref b), .val (.int (0 : Int32)), .val (.int zN), .unset, .unset] [])) pn_29 (fun m => by first | (simp [entryFrame, mkF, argsToLocals, Value.category, maxLocals]; done) | rfl) ?_
  intro Γ T G X
  have KP := Keep.refl h0 []
  show Go Γ n0 _ T (mkF Γ.m 0 #[.val (.ref b), .val (.int (0 : Int32)), .val (.int zN), .unset, .unset] [])
  refine k_iloadN G X d29_0 (pc' := 1) rfl rfl ?_
  refine k_iloadN G X d29_1 (pc' := 2) rfl rfl ?_
  refine k_callS G X (argsL := [(.int (0 : Int32)), (.int zN)]) (rest := []) rfl (w161 hw) (w162 hw) (w156 hw) (w163 hw) (by decide) (ar_chk hw zN h0 n0 _ (by omega)) d29_2 pd12 rfl (pc' := 5) rfl rfl (wd := 0) rfl (by decide) (by decide) (by decide) (by decide) (fun T h2 v sf2 X q => ?_)
  replace X := W.drop X
  obtain ⟨rfl, e2⟩ := q
  replace X := X.eq e2
  show Go Γ n0 _ T (mkF Γ.m 5 #[.val (.ref b), .val (.int (0 : Int32)), .val (.int zN), .unset, .unset] [])
  refine k_iloadN G X d29_5 (pc' := 6) rfl rfl ?_
  refine k_iloadN G X d29_6 (pc' := 7) rfl rfl ?_
  refine k_isub G X d29_7 (pc' := 8) rfl rfl ?_
  rw [show zN - (0 : Int32) = zN from Int32.sub_zero zN]
  refine k_istoreN G X d29_8 (pc' := 9) rfl (l' := #[.val (.ref b), .val (.int (0 : Int32)), .val (.int zN), .val (.int zN), .unset]) rfl ?_
  refine k_iloadN G X d29_9 (pc' := 10) rfl rfl ?_
  refine k_newP G X (aty := .byte) (n := N) (cap := 5) (w23 hw) d29_10 (pc' := 12) rfl hN hNb (by decide) (by decide) (by decide) (fun T h10 b10 k10 s_b10 E10 A_b10 X => ?_)
  have ne_b_b10 : b ≠ b10 := Nat.ne_of_lt (Nat.lt_of_lt_of_eq B.lt s_b10)
  have ge_b10 : n0 ≤ b10 := Nat.le_trans (Jvm.OwnK.Old_le O) (Nat.le_of_eq s_b10)
  have sz_b10 : h0.size ≤ b10 := Nat.le_trans KP.1 (Nat.le_of_eq s_b10)
  replace B := B.ext E10
  replace O := O.ext E10
  replace KP := KP.ext E10
  replace A_b10 : Arf Z h10 b10 k10 .byte N (fun _ => (.int (0 : Int32))) := A_b10
  refine k_astore G X d29_12 (pc' := 14) rfl rfl (l' := #[.val (.ref b), .val (.int (0 : Int32)), .val (.int zN), .val (.int zN), .val (.ref b10)]) rfl ?_
  refine k_aloadN G X d29_14 (pc' := 15) rfl rfl rfl ?_
  refine k_iloadN G X d29_15 (pc' := 16) rfl rfl ?_
  refine k_aload G X d29_16 (pc' := 18) rfl rfl rfl ?_
  refine k_iconst G X d29_18 (pc' := 19) rfl (z := (0 : Int32)) (by decide) ?_
  refine k_aloadN G X d29_19 (pc' := 20) rfl rfl rfl ?_
  refine k_alen G X (z := zC) B hC d29_20 (pc' := 21) rfl ?_
  refine k_iloadN G X d29_21 (pc' := 22) rfl rfl ?_
  refine k_isub G X d29_22 (pc' := 23) rfl rfl ?_
  rw [show zC - (0 : Int32) = zC from Int32.sub_zero zC]
  refine k_iloadN G X d29_23 (pc' := 24) rfl rfl ?_
  refine k_callS G X (argsL := [(.int zC), (.int zN)]) (rest := [(.int (0 : Int32)), (.ref b10), (.int (0 : Int32)), (.ref b)]) rfl (w164 hw) (w165 hw) (w166 hw) (w167 hw) (by decide) (m_min hw zC zN h10 n0 _) d29_24 pd13 rfl (pc' := 27) rfl rfl (wd := 4) rfl (by decide) (by decide) (by decide) (by decide) (fun T h24 v sf24 X q => ?_)
  replace X := W.drop X
  obtain ⟨r24, rfl, q1, q2, e24⟩ := q
  replace X := X.eq e24
  obtain rfl : zN = r24 := of_toInt (by omega)
  show Go Γ n0 _ T (mkF Γ.m 27 #[.val (.ref b), .val (.int (0 : Int32)), .val (.int zN), .val (.int zN), .val (.ref b10)] [(.int zN), (.int (0 : Int32)), (.ref b10), (.int (0 : Int32)), (.ref b)])
  refine k_copy G X (sp := 0) (dp := 0) (nn := N) B A_b10 rfl (w168 hw) (w122 hw) (w120 hw) (w121 hw) rfl rfl hN (by omega) (by omega) ge_b10 (List.mem_of_getElem? (i := 0) rfl) d29_27 (pc' := 30) rfl rfl (by decide) (wd := 0) rfl (by decide) (fun T h27 K27 A_b10' X => ?_)
  replace B := B.keep K27 (by simp only [List.mem_cons, List.not_mem_nil, or_false, not_or]; exact ne_b_b10)
  replace O := O.keep K27 (allS ge_b10 (all0))
  replace KP := KP.trans K27 (allS (Or.inr sz_b10) (all0))
  have A_b10 := A_b10'
  refine k_aload G X d29_30 (pc' := 32) rfl rfl rfl ?_
  refine k_reta G X d29_32 (t := (.array .byte)) rfl rfl rfl ?_ (by decide) (by decide)
  exact ⟨b10, k10, rfl, sz_b10, KP, A_b10.congr fun i hi => by rw [if_pos ⟨Nat.zero_le _, by omega⟩]; simp⟩
theorem pn_28 : plainFor (⟨"java/util/Arrays", "copyOfRange", "([BII)[B"⟩ : MethodName) = true := plainFor_of_name (by first | (simp [plainName, overriddenIn]; done) | decide +kernel)
set_option maxRecDepth 65536 in
set_option maxHeartbeats 40000000 in
theorem ar_cp {Z : State} {a0 : Array Value} (hw : HW a0 Z) (b : Addr) (k : ClassId) (cap N : Nat) (zC zN : Int32) (g : Nat → Value) (h0 : Heap) (n0 : Nat) (sf0 : List Addr) (O : Old Z n0 h0) (B : Arf Z h0 b k .byte cap g) (hC : zC.toInt = cap) (hN : zN.toInt = N) (hNc : N ≤ cap) (hNb : N ≤ 5) (hne : N ≠ cap) :
    MetW Z consts_1 sf0 (⟨"java/util/Arrays", "copyOfRange", "([BII)[B"⟩ : MethodName) jdk_65_method_132_code 3 (some (.array .byte)) [] ({ frames := 2, cells := 1, slots := 5, locals := 34 } : Room) #[(.ref b), (.int (0 : Int32)), (.int zN)] h0 n0 (fun v h sf => ∃ r kr, v = some (.ref r) ∧ h0.size ≤ r ∧ Keep h0 h [] ∧ Arf Z h r kr .byte N g) := by
  refine k_body (hEW hw) (f := (fun m => mkF m 0 #[.val (.ref b), .val (.int (0 : Int32)), .val (.int zN)] [])) pn_28 (fun m => by first | (simp [entryFrame, mkF, argsToLocals, Value.category, maxLocals]; done) | rfl) ?_
  intro Γ T G X
  have KP := Keep.refl h0 []
  show Go Γ n0 _ T (mkF Γ.m 0 #[.val (.ref b), .val (.int (0 : Int32)), .val (.int zN)] [])
  refine k_iloadN G X d28_0 (pc' := 1) rfl rfl ?_
  refine k_if_ne G X d28_1 (pc' := 10) rfl (by decide) (pc'' := 4) rfl (fun c1 => (absurd c1 (by decide))) (fun c1 => ?_)
  refine k_iloadN G X d28_4 (pc' := 5) rfl rfl ?_
  refine k_aloadN G X d28_5 (pc' := 6) rfl rfl rfl ?_
  refine k_alen G X (z := zC) B hC d28_6 (pc' := 7) rfl ?_
  refine k_icmp_eq G X d28_7 (pc' := 17) rfl (by decide) (pc'' := 10) rfl (fun c7 => (absurd c7 (fun q => hne (by rw [q] at hN; omega)))) (fun c7 => ?_)
  refine k_aloadN G X d28_10 (pc' := 11) rfl rfl rfl ?_
  refine k_iloadN G X d28_11 (pc' := 12) rfl rfl ?_
  refine k_iloadN G X d28_12 (pc' := 13) rfl rfl ?_
  refine k_callS G X (argsL := [(.ref b), (.int (0 : Int32)), (.int zN)]) (rest := []) rfl (w158 hw) (w159 hw) (w156 hw) (w160 hw) (by decide) (ar_cpb hw b k cap N zC zN g h0 n0 _ O B hC hN hNc hNb hne) d28_13 pd14 rfl (pc' := 16) rfl rfl (wd := 0) rfl (by decide) (by decide) (by decide) (by decide) (fun T h13 v sf13 X q => ?_)
  replace X := W.drop X
  obtain ⟨r, kr, rfl, sz_r, KQ, RA⟩ := q
  show Go Γ n0 _ T (mkF Γ.m 16 #[.val (.ref b), .val (.int (0 : Int32)), .val (.int zN)] [(.ref r)])
  refine k_reta G X d28_16 (t := (.array .byte)) rfl rfl rfl ?_ (by decide) (by decide)
  exact ⟨r, kr, rfl, sz_r, KQ, RA⟩
theorem pn_24 : plainFor (⟨"java/lang/AbstractStringBuilder", "getValue", "()[B"⟩ : MethodName) = true := plainFor_of_name (by first | (simp [plainName, overriddenIn]; done) | decide +kernel)
set_option maxRecDepth 65536 in
set_option maxHeartbeats 40000000 in
theorem sb_val {Z : State} {a0 : Array Value} (hw : HW a0 Z) (o b : Addr) (h0 : Heap) (n0 : Nat) (sf0 : List Addr) (FV : Fld Z h0 o "java/lang/AbstractStringBuilder" "value" "[B" (.ref b)) :
    MetW Z consts_1 sf0 (⟨"java/lang/AbstractStringBuilder", "getValue", "()[B"⟩ : MethodName) jdk_68_method_64_code 1 (some (.array .byte)) [] ({ frames := 0, cells := 0, slots := 0, locals := 0 } : Room) #[(.ref o)] h0 n0 (fun v h sf => v = some (.ref b) ∧ h = h0) := by
  refine k_body (hEW hw) (f := (fun m => mkF m 0 #[.val (.ref o)] [])) pn_24 (fun m => by first | (simp [entryFrame, mkF, argsToLocals, Value.category, maxLocals]; done) | rfl) ?_
  intro Γ T G X
  show Go Γ n0 _ T (mkF Γ.m 0 #[.val (.ref o)] [])
  refine k_aloadN G X d24_0 (pc' := 1) rfl rfl rfl ?_
  refine k_getF G X (host := "") (Or.inl (w72 hw)) Via.refl FV d24_1 (pc' := 4) rfl (fun T X => ?_)
  refine k_reta G X d24_4 (t := (.array .byte)) rfl rfl rfl ?_ (by decide) (by decide)
  exact ⟨rfl, rfl⟩
theorem pn_26 : plainFor (⟨"java/lang/AbstractStringBuilder", "length", "()I"⟩ : MethodName) = true := plainFor_of_name (by first | (simp [plainName, overriddenIn]; done) | decide +kernel)
set_option maxRecDepth 65536 in
set_option maxHeartbeats 40000000 in
theorem sb_len2 {Z : State} {a0 : Array Value} (hw : HW a0 Z) (o : Addr) (zN : Int32) (h0 : Heap) (n0 : Nat) (sf0 : List Addr) (FN : Fld Z h0 o "java/lang/AbstractStringBuilder" "count" "I" (.int zN)) :
    MetW Z consts_1 sf0 (⟨"java/lang/AbstractStringBuilder", "length", "()I"⟩ : MethodName) jdk_68_method_6_code 1 (some .int) [] ({ frames := 0, cells := 0, slots := 0, locals := 0 } : Room) #[(.ref o)] h0 n0 (fun v h sf => v = some (.int zN) ∧ h = h0) := by
  refine k_body (hEW hw) (f := (fun m => mkF m 0 #[.val (.ref o)] [])) pn_26 (fun m => by first | (simp [entryFrame, mkF, argsToLocals, Value.category, maxLocals]; done) | rfl) ?_
  intro Γ T G X
  show Go Γ n0 _ T (mkF Γ.m 0 #[.val (.ref o)] [])
  refine k_aloadN G X d26_0 (pc' := 1) rfl rfl rfl ?_
  refine k_getF G X (host := "") (Or.inl (w96 hw)) Via.refl FN d26_1 (pc' := 4) rfl (fun T X => ?_)
  refine k_reti G X d26_4 rfl ?_ (by decide) (by decide)
  exact ⟨rfl, rfl⟩
theorem pn_25 : plainFor (⟨"java/lang/StringBuilder", "length", "()I"⟩ : MethodName) = true := plainFor_of_name (by first | (simp [plainName, overriddenIn]; done) | decide +kernel)
set_option maxRecDepth 65536 in
set_option maxHeartbeats 40000000 in
theorem sb_len {Z : State} {a0 : Array Value} (hw : HW a0 Z) (o : Addr) (zN : Int32) (h0 : Heap) (n0 : Nat) (sf0 : List Addr) (E : Exa Z h0 o "java/lang/StringBuilder") (FN : Fld Z h0 o "java/lang/AbstractStringBuilder" "count" "I" (.int zN)) :
    MetW Z consts_1 sf0 (⟨"java/lang/StringBuilder", "length", "()I"⟩ : MethodName) jdk_67_method_93_code 1 (some .int) [] ({ frames := 1, cells := 0, slots := 0, locals := 12 } : Room) #[(.ref o)] h0 n0 (fun v h sf => v = some (.int zN) ∧ h = h0) := by
  refine k_body (hEW hw) (f := (fun m => mkF m 0 #[.val (.ref o)] [])) pn_25 (fun m => by first | (simp [entryFrame, mkF, argsToLocals, Value.category, maxLocals]; done) | rfl) ?_
  intro Γ T G X
  show Go Γ n0 _ T (mkF Γ.m 0 #[.val (.ref o)] [])
  refine k_aloadN G X d25_0 (pc' := 1) rfl rfl rfl ?_
  refine k_callU G X (argsL := []) (rest := []) rfl (Ins.self E) (w147 hw) (smD (w143 hw) ((nf_sib (y := (⟨"java/lang/AbstractStringBuilder", "length", "()I"⟩ : MethodName)) (w101 hw) (w99 hw) rfl) Z (State.Warmed39.refl Z)) (by decide)) (w143 hw) (w83 hw) (by decide) (w68 hw) (w148 hw) (sb_len2 hw o zN h0 n0 _ FN) d25_1 pd9 rfl (pc' := 4) rfl rfl (wd := 0) rfl (by decide) (by decide) (by decide) (by decide) (fun T h1 v sf1 X q => ?_)
  replace X := W.drop X
  obtain ⟨rfl, e1⟩ := q
  replace X := X.eq e1
  show Go Γ n0 _ T (mkF Γ.m 4 #[.val (.ref o)] [(.int zN)])
  refine k_reti G X d25_4 rfl ?_ (by decide) (by decide)
  exact ⟨rfl, rfl⟩
theorem pn_27 : plainFor (⟨"java/lang/AbstractStringBuilder", "isLatin1", "()Z"⟩ : MethodName) = true := plainFor_of_name (by first | (simp [plainName, overriddenIn]; done) | decide +kernel)
set_option maxRecDepth 65536 in
set_option maxHeartbeats 40000000 in
theorem sb_lat {Z : State} {a0 : Array Value} (hw : HW a0 Z) (o : Addr) (cs : Int32) (h0 : Heap) (n0 : Nat) (sf0 : List Addr) (FC : Fld Z h0 o "java/lang/AbstractStringBuilder" "coder" "B" (.int (0 : Int32))) (S_CS : Sta Z h0 "java/lang/String" "COMPACT_STRINGS" "Z" (.int cs)) (hcs : cs ≠ 0) :
    MetW Z consts_1 sf0 (⟨"java/lang/AbstractStringBuilder", "isLatin1", "()Z"⟩ : MethodName) jdk_68_method_68_code 1 (some .boolean) [] ({ frames := 0, cells := 0, slots := 0, locals := 0 } : Room) #[(.ref o)] h0 n0 (fun v h sf => v = some (.int 1) ∧ h = h0) := by
  refine k_body (hEW hw) (f := (fun m => mkF m 0 #[.val (.ref o)] [])) pn_27 (fun m => by first | (simp [entryFrame, mkF, argsToLocals, Value.category, maxLocals]; done) | rfl) ?_
  intro Γ T G X
  show Go Γ n0 _ T (mkF Γ.m 0 #[.val (.ref o)] [])
  refine k_getS G X (host := "") (Or.inl (w71 hw)) Via.refl S_CS d27_0 (pc' := 3) rfl (fun T X => ?_)
  refine k_if_eq G X d27_3 (pc' := 17) rfl (by decide) (pc'' := 6) rfl (fun c3 => (absurd c3 hcs)) (fun c3 => ?_)
  refine k_aloadN G X d27_6 (pc' := 7) rfl rfl rfl ?_
  refine k_getF G X (host := "") (Or.inl (w74 hw)) Via.refl FC d27_7 (pc' := 10) rfl (fun T X => ?_)
  refine k_if_ne G X d27_10 (pc' := 17) rfl (by decide) (pc'' := 13) rfl (fun c10 => (absurd c10 (by decide))) (fun c10 => ?_)
  refine k_iconst G X d27_13 (pc' := 14) rfl (z := (1 : Int32)) (by decide) ?_
  refine k_goto G X d27_14 (by decide) (pc' := 18) rfl ?_
  refine k_retb G X d27_18 (t := .boolean) rfl (by simp) rfl ?_ (by decide) (by decide)
  exact ⟨rfl, rfl⟩
theorem pn_23 : plainFor (⟨"java/lang/String", "<init>", "(Ljava/lang/AbstractStringBuilder;Ljava/lang/Void;)V"⟩ : MethodName) = true := plainFor_of_name (by first | (simp [plainName, overriddenIn]; done) | decide +kernel)
set_option maxRecDepth 65536 in
set_option maxHeartbeats 40000000 in
theorem st_sb3 {Z : State} {a0 : Array Value} (hw : HW a0 Z) (s o b : Addr) (k : ClassId) (cap N : Nat) (zC zN cs : Int32) (g : Nat → Value) (h0 : Heap) (n0 : Nat) (sf0 : List Addr) (gm_s : n0 ≤ s ∧ s ∈ sf0) (O : Old Z n0 h0) (SE : Exa Z h0 s "java/lang/String") (SV : Fld Z h0 s "java/lang/String" "value" "[B" .null) (SC : Fld Z h0 s "java/lang/String" "coder" "B" (.int (0 : Int32))) (E : Exa Z h0 o "java/lang/StringBuilder") (FV : Fld Z h0 o "java/lang/AbstractStringBuilder" "value" "[B" (.ref b)) (FC : Fld Z h0 o "java/lang/AbstractStringBuilder" "coder" "B" (.int (0 : Int32))) (FN : Fld Z h0 o "java/lang/AbstractStringBuilder" "count" "I" (.int zN)) (B : Arf Z h0 b k .byte cap g) (hC : zC.toInt = cap) (hN : zN.toInt = N) (hNc : N ≤ cap) (hNb : N ≤ 5) (hne : N ≠ cap) (S_CS : Sta Z h0 "java/lang/String" "COMPACT_STRINGS" "Z" (.int cs)) (hcs : cs ≠ 0) (ne_o_s : o ≠ s) (ne_b_s : b ≠ s) :
    MetW Z consts_1 sf0 (⟨"java/lang/String", "<init>", "(Ljava/lang/AbstractStringBuilder;Ljava/lang/Void;)V"⟩ : MethodName) jdk_42_method_150_code 5 none [] ({ frames := 3, cells := 1, slots := 5, locals := 49 } : Room) #[(.ref s), (.ref o), .null] h0 n0 (fun v h sf => v = none ∧ Keep h0 h [s] ∧ ∃ r kr, h0.size ≤ r ∧ Exa Z h s "java/lang/String" ∧ Fld Z h s "java/lang/String" "coder" "B" (.int 0) ∧ Fld Z h s "java/lang/String" "value" "[B" (.ref r) ∧ Arf Z h r kr .byte N g) := by
  refine k_body (hEW hw) (f := (fun m => mkF m 0 #[.val (.ref s), .val (.ref o), .val .null, .unset, .unset] [])) pn_23 (fun m => by first | (simp [entryFrame, mkF, argsToLocals, Value.category, maxLocals]; done) | rfl) ?_
  intro Γ T G X
  have ge_s := gm_s.1
  have KP := Keep.refl h0 [s]
  show Go Γ n0 _ T (mkF Γ.m 0 #[.val (.ref s), .val (.ref o), .val .null, .unset, .unset] [])
  refine k_aloadN G X d23_0 (pc' := 1) rfl rfl rfl ?_
  refine k_initO G X (w15 hw) (w16 hw) (w17 hw) d23_1 (pc' := 4) rfl rfl (by decide) (wd := 0) rfl (by decide) (fun T X => ?_)
  refine k_aloadN G X d23_4 (pc' := 5) rfl rfl rfl ?_
  refine k_callV G X (argsL := []) (rest := []) rfl E (w136 hw) (w137 hw) (nf_sel (w139 hw)) (w139 hw) (w138 hw) (w68 hw) (w140 hw) (by decide) (sb_val hw o b h0 n0 _ FV) d23_5 pd15 rfl (pc' := 8) rfl rfl (wd := 0) rfl (by decide) (by decide) (by decide) (by decide) (fun T h5 v sf5 X q => ?_)
  replace X := W.drop X
  obtain ⟨rfl, e5⟩ := q
  replace X := X.eq e5
  show Go Γ n0 _ T (mkF Γ.m 8 #[.val (.ref s), .val (.ref o), .val .null, .unset, .unset] [(.ref b)])
  refine k_astoreN G X d23_8 (pc' := 9) rfl rfl (l' := #[.val (.ref s), .val (.ref o), .val .null, .val (.ref b), .unset]) rfl ?_
  refine k_aloadN G X d23_9 (pc' := 10) rfl rfl rfl ?_
  refine k_callV G X (argsL := []) (rest := []) rfl E (w141 hw) (w142 hw) (nf_sib (y := (⟨"java/lang/AbstractStringBuilder", "length", "()I"⟩ : MethodName)) (w101 hw) (w99 hw) rfl) (w144 hw) (w145 hw) (w60 hw) (w146 hw) (by decide) (sb_len hw o zN h0 n0 _ E FN) d23_10 pd9 rfl (pc' := 13) rfl rfl (wd := 0) rfl (by decide) (by decide) (by decide) (by decide) (fun T h10 v sf10 X q => ?_)
  replace X := W.drop X
  obtain ⟨rfl, e10⟩ := q
  replace X := X.eq e10
  show Go Γ n0 _ T (mkF Γ.m 13 #[.val (.ref s), .val (.ref o), .val .null, .val (.ref b), .unset] [(.int zN)])
  refine k_istore G X d23_13 (pc' := 15) rfl (l' := #[.val (.ref s), .val (.ref o), .val .null, .val (.ref b), .val (.int zN)]) rfl ?_
  refine k_aloadN G X d23_15 (pc' := 16) rfl rfl rfl ?_
  refine k_callV G X (argsL := []) (rest := []) rfl E (w149 hw) (w150 hw) (nf_sel (w152 hw)) (w152 hw) (w151 hw) (w68 hw) (w153 hw) (by decide) (sb_lat hw o cs h0 n0 _ FC S_CS hcs) d23_16 pd16 rfl (pc' := 19) rfl rfl (wd := 0) rfl (by decide) (by decide) (by decide) (by decide) (fun T h16 v sf16 X q => ?_)
  replace X := W.drop X
  obtain ⟨rfl, e16⟩ := q
  replace X := X.eq e16
  show Go Γ n0 _ T (mkF Γ.m 19 #[.val (.ref s), .val (.ref o), .val .null, .val (.ref b), .val (.int zN)] [(.int (1 : Int32))])
  refine k_if_eq G X d23_19 (pc' := 41) rfl (by decide) (pc'' := 22) rfl (fun c19 => (absurd c19 (by decide))) (fun c19 => ?_)
  refine k_aloadN G X d23_22 (pc' := 23) rfl rfl rfl ?_
  refine k_iconst G X d23_23 (pc' := 24) rfl (z := (0 : Int32)) (by decide) ?_
  refine k_putFN G X (w30 hw) Via.refl SC SE (Or.inr ⟨(w31 hw), rfl, rfl⟩) (w5 hw) (ty := .byte) (v' := (.int (0 : Int32))) (by decide) rfl rfl ge_s (List.mem_append_right [] gm_s.2) d23_24 (pc' := 27) rfl (fun T h24 W24 X => ?_)
  replace SE := SE.wr W24
  replace SV := SV.other W24 (Or.inr (slot_ne (Or.inr (w33 hw)) (Or.inr (w31 hw)) (by decide) (t := (.array .byte)) (t' := .byte) (by decide) (by decide)))
  replace SC := SC.same W24
  replace E := E.wr W24
  replace FV := FV.other W24 (Or.inl ne_o_s)
  replace FC := FC.other W24 (Or.inl ne_o_s)
  replace FN := FN.other W24 (Or.inl ne_o_s)
  replace B := B.other W24 ne_b_s
  replace O := O.wr W24 ge_s
  replace KP := KP.wr W24 (Or.inl (List.mem_of_getElem? (i := 0) rfl))
  replace S_CS := S_CS.wr W24
  refine k_aloadN G X d23_27 (pc' := 28) rfl rfl rfl ?_
  refine k_aloadN G X d23_28 (pc' := 29) rfl rfl rfl ?_
  refine k_iconst G X d23_29 (pc' := 30) rfl (z := (0 : Int32)) (by decide) ?_
  refine k_iload G X d23_30 (pc' := 32) rfl rfl ?_
  refine k_callS G X (argsL := [(.ref b), (.int (0 : Int32)), (.int zN)]) (rest := [(.ref s)]) rfl (w154 hw) (w155 hw) (w156 hw) (w157 hw) (by decide) (ar_cp hw b k cap N zC zN g h24 n0 _ O B hC hN hNc hNb hne) d23_32 pd14 rfl (pc' := 35) rfl rfl (wd := 1) rfl (by decide) (by decide) (by decide) (by decide) (fun T h32 v sf32 X q => ?_)
  replace X := W.drop X
  obtain ⟨r, kr, rfl, sz_r', K32, RA⟩ := q
  have sz_r := Nat.le_trans KP.1 sz_r'
  have ne_s_r : s ≠ r := Nat.ne_of_lt (Nat.lt_of_lt_of_le SE.lt sz_r')
  replace S_CS := Jvm.OwnK.Sta_keep S_CS K32
  replace SE := SE.keep K32
  replace SV := SV.keep K32 nin0
  replace SC := SC.keep K32 nin0
  replace E := E.keep K32
  replace FV := FV.keep K32 nin0
  replace FC := FC.keep K32 nin0
  replace FN := FN.keep K32 nin0
  replace B := B.keep K32 nin0
  replace O := O.keep K32 (all0)
  replace KP := KP.trans K32 (all0)
  show Go Γ n0 _ T (mkF Γ.m 35 #[.val (.ref s), .val (.ref o), .val .null, .val (.ref b), .val (.int zN)] [(.ref r), (.ref s)])
  refine k_putF G X (host := "") (Or.inl (w32 hw)) Via.refl SV SE (Or.inr ⟨(w33 hw), rfl, rfl⟩) (w5 hw) (ty := (.array .byte)) (by decide) rfl rfl ge_s (List.mem_append_right [] gm_s.2) d23_35 (pc' := 38) rfl (fun T h35 W35 X => ?_)
  replace SE := SE.wr W35
  replace SV := SV.same W35
  replace SC := SC.other W35 (Or.inr (slot_ne (Or.inr (w31 hw)) (Or.inr (w33 hw)) (by decide) (t := .byte) (t' := (.array .byte)) (by decide) (by decide)))
  replace E := E.wr W35
  replace FV := FV.other W35 (Or.inl ne_o_s)
  replace FC := FC.other W35 (Or.inl ne_o_s)
  replace FN := FN.other W35 (Or.inl ne_o_s)
  replace B := B.other W35 ne_b_s
  replace O := O.wr W35 ge_s
  replace KP := KP.wr W35 (Or.inl (List.mem_of_getElem? (i := 0) rfl))
  replace S_CS := S_CS.wr W35
  replace RA := RA.other W35 (Ne.symm ne_s_r)
  refine k_goto G X d23_38 (by decide) (pc' := 97) rfl ?_
  refine k_retv G X d23_97 rfl ?_ (by decide) (by decide)
  exact ⟨rfl, KP, r, kr, sz_r, SE, SC, SV, RA⟩
theorem pn_22 : plainFor (⟨"java/lang/String", "<init>", "(Ljava/lang/StringBuilder;)V"⟩ : MethodName) = true := plainFor_of_name (by first | (simp [plainName, overriddenIn]; done) | decide +kernel)
set_option maxRecDepth 65536 in
set_option maxHeartbeats 40000000 in
theorem st_sb2 {Z : State} {a0 : Array Value} (hw : HW a0 Z) (s o b : Addr) (k : ClassId) (cap N : Nat) (zC zN cs : Int32) (g : Nat → Value) (h0 : Heap) (n0 : Nat) (sf0 : List Addr) (gm_s : n0 ≤ s ∧ s ∈ sf0) (O : Old Z n0 h0) (SE : Exa Z h0 s "java/lang/String") (SV : Fld Z h0 s "java/lang/String" "value" "[B" .null) (SC : Fld Z h0 s "java/lang/String" "coder" "B" (.int (0 : Int32))) (E : Exa Z h0 o "java/lang/StringBuilder") (FV : Fld Z h0 o "java/lang/AbstractStringBuilder" "value" "[B" (.ref b)) (FC : Fld Z h0 o "java/lang/AbstractStringBuilder" "coder" "B" (.int (0 : Int32))) (FN : Fld Z h0 o "java/lang/AbstractStringBuilder" "count" "I" (.int zN)) (B : Arf Z h0 b k .byte cap g) (hC : zC.toInt = cap) (hN : zN.toInt = N) (hNc : N ≤ cap) (hNb : N ≤ 5) (hne : N ≠ cap) (S_CS : Sta Z h0 "java/lang/String" "COMPACT_STRINGS" "Z" (.int cs)) (hcs : cs ≠ 0) (ne_o_s : o ≠ s) (ne_b_s : b ≠ s) :
    MetW Z consts_1 sf0 (⟨"java/lang/String", "<init>", "(Ljava/lang/StringBuilder;)V"⟩ : MethodName) jdk_42_method_53_code 2 none [] ({ frames := 4, cells := 1, slots := 5, locals := 65 } : Room) #[(.ref s), (.ref o)] h0 n0 (fun v h sf => v = none ∧ Keep h0 h [s] ∧ ∃ r kr, h0.size ≤ r ∧ Exa Z h s "java/lang/String" ∧ Fld Z h s "java/lang/String" "coder" "B" (.int 0) ∧ Fld Z h s "java/lang/String" "value" "[B" (.ref r) ∧ Arf Z h r kr .byte N g) := by
  refine k_body (hEW hw) (f := (fun m => mkF m 0 #[.val (.ref s), .val (.ref o)] [])) pn_22 (fun m => by first | (simp [entryFrame, mkF, argsToLocals, Value.category, maxLocals]; done) | rfl) ?_
  intro Γ T G X
  have ge_s := gm_s.1
  have KP := Keep.refl h0 [s]
  show Go Γ n0 _ T (mkF Γ.m 0 #[.val (.ref s), .val (.ref o)] [])
  refine k_aloadN G X d22_0 (pc' := 1) rfl rfl rfl ?_
  refine k_aloadN G X d22_1 (pc' := 2) rfl rfl rfl ?_
  refine k_anull G X d22_2 (pc' := 3) rfl ?_
  refine k_callI G X (argsL := [(.ref o), .null]) (rest := []) rfl rfl (w133 hw) (w134 hw) (w6 hw) (w135 hw) (by decide) (st_sb3 hw s o b k cap N zC zN cs g h0 n0 _ ⟨ge_s, (List.mem_append_right [] gm_s.2)⟩ O SE SV SC E FV FC FN B hC hN hNc hNb hne S_CS hcs ne_o_s ne_b_s) d22_3 pd17 rfl (pc' := 6) rfl rfl (wd := 0) rfl (by decide) (by decide) (by decide) (by decide) (fun T h3 v sf3 X q => ?_)
  replace X := W.drop X
  obtain ⟨rfl, q⟩ := q
  show Go Γ n0 _ T (mkF Γ.m 6 #[.val (.ref s), .val (.ref o)] [])
  refine k_retv G X d22_6 rfl ?_ (by decide) (by decide)
  exact ⟨rfl, q⟩
theorem pn_21 : plainFor (⟨"java/lang/StringBuilder", "toString", "()Ljava/lang/String;"⟩ : MethodName) = true := plainFor_of_name (by first | (simp [plainName, overriddenIn]; done) | decide +kernel)
set_option maxRecDepth 65536 in
set_option maxHeartbeats 40000000 in
theorem sb_str {Z : State} {a0 : Array Value} (hw : HW a0 Z) (o b : Addr) (k : ClassId) (cap N : Nat) (zC zN cs : Int32) (g : Nat → Value) (h0 : Heap) (n0 : Nat) (sf0 : List Addr) (O : Old Z n0 h0) (E : Exa Z h0 o "java/lang/StringBuilder") (FV : Fld Z h0 o "java/lang/AbstractStringBuilder" "value" "[B" (.ref b)) (FC : Fld Z h0 o "java/lang/AbstractStringBuilder" "coder" "B" (.int (0 : Int32))) (FN : Fld Z h0 o "java/lang/AbstractStringBuilder" "count" "I" (.int zN)) (B : Arf Z h0 b k .byte cap g) (hC : zC.toInt = cap) (hN : zN.toInt = N) (hNc : N ≤ cap) (hNb : N ≤ 5) (hne : N ≠ cap) (S_CS : Sta Z h0 "java/lang/String" "COMPACT_STRINGS" "Z" (.int cs)) (hcs : cs ≠ 0) :
    MetW Z consts_1 sf0 (⟨"java/lang/StringBuilder", "toString", "()Ljava/lang/String;"⟩ : MethodName) jdk_67_method_42_code 1 (some (.object "java/lang/String")) [] ({ frames := 5, cells := 2, slots := 9, locals := 79 } : Room) #[(.ref o)] h0 n0 (fun v h sf => ∃ s r kr, v = some (.ref s) ∧ h0.size ≤ s ∧ h0.size ≤ r ∧ Keep h0 h [] ∧ Exa Z h s "java/lang/String" ∧ Fld Z h s "java/lang/String" "coder" "B" (.int 0) ∧ Fld Z h s "java/lang/String" "value" "[B" (.ref r) ∧ Arf Z h r kr .byte N g) := by
  refine k_body (hEW hw) (f := (fun m => mkF m 0 #[.val (.ref o)] [])) pn_21 (fun m => by first | (simp [entryFrame, mkF, argsToLocals, Value.category, maxLocals]; done) | rfl) ?_
  intro Γ T G X
  have KP := Keep.refl h0 []
  show Go Γ n0 _ T (mkF Γ.m 0 #[.val (.ref o)] [])
  refine k_new G X (w129 hw) (w5 hw) (w6 hw) d21_0 (pc' := 3) rfl (by decide) (by decide) (fun T hA0 b0 s_b0 E0 X_b0 D0 X => ?_)
  have ne_o_b0 : o ≠ b0 := Nat.ne_of_lt (Nat.lt_of_lt_of_eq E.lt s_b0)
  have ne_b_b0 : b ≠ b0 := Nat.ne_of_lt (Nat.lt_of_lt_of_eq B.lt s_b0)
  have ge_b0 : n0 ≤ b0 := Nat.le_trans (Jvm.OwnK.Old_le O) (Nat.le_of_eq s_b0)
  have sz_b0 : h0.size ≤ b0 := Nat.le_trans KP.1 (Nat.le_of_eq s_b0)
  replace E := E.ext E0
  replace FV := FV.ext E0
  replace FC := FC.ext E0
  replace FN := FN.ext E0
  replace B := B.ext E0
  replace O := O.ext E0
  replace KP := KP.ext E0
  replace S_CS := S_CS.ext E0
  have F_b0_coder : Fld Z hA0 b0 "java/lang/String" "coder" "B" (.int (0 : Int32)) := D0 (Or.inr (w31 hw)) (ty := .byte) (by decide)
  have F_b0_value : Fld Z hA0 b0 "java/lang/String" "value" "[B" .null := D0 (Or.inr (w33 hw)) (ty := (.array .byte)) (by decide)
  have F_b0_hash : Fld Z hA0 b0 "java/lang/String" "hash" "I" (.int (0 : Int32)) := D0 (Or.inl (w187 hw)) (ty := .int) (by decide)
  have F_b0_hashIsZero : Fld Z hA0 b0 "java/lang/String" "hashIsZero" "Z" (.int (0 : Int32)) := D0 (Or.inl (w189 hw)) (ty := .boolean) (by decide)
  refine k_dup G X d21_3 (pc' := 4) rfl rfl ?_
  refine k_aloadN G X d21_4 (pc' := 5) rfl rfl rfl ?_
  refine k_callI G X (argsL := [(.ref o)]) (rest := [(.ref b0)]) rfl rfl (w130 hw) (w131 hw) (w6 hw) (w132 hw) (by decide) (st_sb2 hw b0 o b k cap N zC zN cs g hA0 n0 _ ⟨ge_b0, (List.mem_of_getElem? (i := 0) rfl)⟩ O X_b0 F_b0_value F_b0_coder E FV FC FN B hC hN hNc hNb hne S_CS hcs ne_o_b0 ne_b_b0) d21_5 pd18 rfl (pc' := 8) rfl rfl (wd := 1) rfl (by decide) (by decide) (by decide) (by decide) (fun T h5 v sf5 X q => ?_)
  replace X := W.drop X
  obtain ⟨rfl, K5, r, kr, sz_r', RE, RC, RV, RA⟩ := q
  have sz_r := Nat.le_trans KP.1 sz_r'
  replace S_CS := Sta_keepL S_CS K5 (allS (Pln_exa X_b0) (all0))
  replace E := E.keep K5
  replace FV := FV.keep K5 (by simp only [List.mem_cons, List.not_mem_nil, or_false, not_or]; exact ne_o_b0)
  replace FC := FC.keep K5 (by simp only [List.mem_cons, List.not_mem_nil, or_false, not_or]; exact ne_o_b0)
  replace FN := FN.keep K5 (by simp only [List.mem_cons, List.not_mem_nil, or_false, not_or]; exact ne_o_b0)
  replace B := B.keep K5 (by simp only [List.mem_cons, List.not_mem_nil, or_false, not_or]; exact ne_b_b0)
  replace O := O.keep K5 (allS ge_b0 (all0))
  replace KP := KP.trans K5 (allS (Or.inr sz_b0) (all0))
  replace X_b0 := X_b0.keep K5
  show Go Γ n0 _ T (mkF Γ.m 8 #[.val (.ref o)] [(.ref b0)])
  refine k_reta G X d21_8 (t := (.object "java/lang/String")) rfl rfl rfl ?_ (by decide) (by decide)
  exact ⟨b0, r, kr, rfl, sz_b0, sz_r, KP, RE, RC, RV, RA⟩
theorem pn_1 : plainFor (⟨"com/example/changeline/changeline/change/TableNameEqualsPinLaw", "mk", "(III)Ljava/lang/String;"⟩ : MethodName) = true := plainFor_of_name (by first | (simp [plainName, overriddenIn]; done) | decide +kernel)
set_option maxRecDepth 65536 in
set_option maxHeartbeats 40000000 in
theorem mk {Z : State} {a0 : Array Value} (hw : HW a0 Z) (zl ca cb cs : Int32) (n : Nat) (h0 : Heap) (n0 : Nat) (sf0 : List Addr) (hl : zl.toInt = n) (hn1 : 1 ≤ n) (hn : n ≤ 2) (r0 : 0 ≤ ca.toInt ∧ ca.toInt ≤ 255) (r1 : 0 ≤ cb.toInt ∧ cb.toInt ≤ 255) (O : Old Z n0 h0) (S_CS : Sta Z h0 "java/lang/String" "COMPACT_STRINGS" "Z" (.int cs)) (hcs : cs ≠ 0) :
    MetW Z consts_1 sf0 (⟨"com/example/changeline/changeline/change/TableNameEqualsPinLaw", "mk", "(III)Ljava/lang/String;"⟩ : MethodName) method_2_code 3 (some (.object "java/lang/String")) [] ({ frames := 4, cells := 3, slots := 8, locals := 68 } : Room) #[(.int zl), (.int ca), (.int cb)] h0 n0 (fun v h sf => ∃ s b k, v = some (.ref s) ∧ h0.size ≤ s ∧ h0.size ≤ b ∧ Keep h0 h [] ∧ Str Z h s b k n (fun i => (own2 ca cb i).toInt8.toInt32) ∧ Exa Z h b "[B" ∧ Fld Z h s "java/lang/String" "hash" "I" (.int (0 : Int32)) ∧ Fld Z h s "java/lang/String" "hashIsZero" "Z" (.int (0 : Int32)) ∧ s ∈ sf) := by
  refine k_body (hEW hw) (f := (fun m => mkF m 0 #[.val (.int zl), .val (.int ca), .val (.int cb)] [])) pn_1 (fun m => by first | (simp [entryFrame, mkF, argsToLocals, Value.category, maxLocals]; done) | rfl) ?_
  intro Γ T G X
  have KP := Keep.refl h0 []
  have e1 : (1 : Int32).toInt = 1 := rfl
  show Go Γ n0 _ T (mkF Γ.m 0 #[.val (.int zl), .val (.int ca), .val (.int cb)] [])
  refine k_iloadN G X d1_0 (pc' := 1) rfl rfl ?_
  refine k_iconst G X d1_1 (pc' := 2) rfl (z := (1 : Int32)) (by decide) ?_
  refine k_icmp_ne G X d1_2 (pc' := 21) rfl (by decide) (pc'' := 5) rfl (fun c2 => ?_) (fun c2 => ?_)
  · refine k_new G X (w4 hw) (w5 hw) (w6 hw) d1_21 (pc' := 24) rfl (by decide) (by decide) (fun T h21 b21 s_b21 E21 X_b21 D21 X => ?_)
    have ge_b21 : n0 ≤ b21 := Nat.le_trans (Jvm.OwnK.Old_le O) (Nat.le_of_eq s_b21)
    have sz_b21 : h0.size ≤ b21 := Nat.le_trans KP.1 (Nat.le_of_eq s_b21)
    replace O := O.ext E21
    replace KP := KP.ext E21
    replace S_CS := S_CS.ext E21
    have F_b21_coder : Fld Z h21 b21 "java/lang/String" "coder" "B" (.int (0 : Int32)) := D21 (Or.inr (w31 hw)) (ty := .byte) (by decide)
    have F_b21_value : Fld Z h21 b21 "java/lang/String" "value" "[B" .null := D21 (Or.inr (w33 hw)) (ty := (.array .byte)) (by decide)
    have F_b21_hash : Fld Z h21 b21 "java/lang/String" "hash" "I" (.int (0 : Int32)) := D21 (Or.inl (w187 hw)) (ty := .int) (by decide)
    have F_b21_hashIsZero : Fld Z h21 b21 "java/lang/String" "hashIsZero" "Z" (.int (0 : Int32)) := D21 (Or.inl (w189 hw)) (ty := .boolean) (by decide)
    refine k_dup G X d1_24 (pc' := 25) rfl rfl ?_
    refine k_iconst G X d1_25 (pc' := 26) rfl (z := (2 : Int32)) (by decide) ?_
    refine k_newP G X (aty := .char) (n := 2) (cap := 2) (w7 hw) d1_26 (pc' := 28) rfl rfl (by decide) (by decide) (by decide) (by decide) (fun T h26 b26 k26 s_b26 E26 A_b26 X => ?_)
    have ne_b21_b26 : b21 ≠ b26 := Nat.ne_of_lt (Nat.lt_of_lt_of_eq X_b21.lt s_b26)
    have ge_b26 : n0 ≤ b26 := Nat.le_trans (Jvm.OwnK.Old_le O) (Nat.le_of_eq s_b26)
    have sz_b26 : h0.size ≤ b26 := Nat.le_trans KP.1 (Nat.le_of_eq s_b26)
    replace O := O.ext E26
    replace KP := KP.ext E26
    replace S_CS := S_CS.ext E26
    replace X_b21 := X_b21.ext E26
    replace F_b21_coder := F_b21_coder.ext E26
    replace F_b21_value := F_b21_value.ext E26
    replace F_b21_hash := F_b21_hash.ext E26
    replace F_b21_hashIsZero := F_b21_hashIsZero.ext E26
    replace A_b26 : Arf Z h26 b26 k26 .char 2 (fun _ => (.int (0 : Int32))) := A_b26
    refine k_dup G X d1_28 (pc' := 29) rfl rfl ?_
    refine k_iconst G X d1_29 (pc' := 30) rfl (z := (0 : Int32)) (by decide) ?_
    refine k_iloadN G X d1_30 (pc' := 31) rfl rfl ?_
    refine k_i2c G X d1_31 (pc' := 32) rfl rfl ?_
    rw [i2c_id r0]
    refine k_castore G X (i := 0) (z := ca) A_b26 rfl (by decide) (nar_char r0) ge_b26 (List.mem_of_getElem? (i := 0) rfl) d1_32 (pc' := 33) rfl (fun T h32 W32 A_b26 X => ?_)
    replace O := O.wr W32 ge_b26
    replace KP := KP.wr W32 (Or.inr sz_b26)
    replace S_CS := S_CS.wr W32
    replace X_b21 := X_b21.wr W32
    replace F_b21_coder := F_b21_coder.other W32 (Or.inl ne_b21_b26)
    replace F_b21_value := F_b21_value.other W32 (Or.inl ne_b21_b26)
    replace F_b21_hash := F_b21_hash.other W32 (Or.inl ne_b21_b26)
    replace F_b21_hashIsZero := F_b21_hashIsZero.other W32 (Or.inl ne_b21_b26)
    refine k_dup G X d1_33 (pc' := 34) rfl rfl ?_
    refine k_iconst G X d1_34 (pc' := 35) rfl (z := (1 : Int32)) (by decide) ?_
    refine k_iloadN G X d1_35 (pc' := 36) rfl rfl ?_
    refine k_i2c G X d1_36 (pc' := 37) rfl rfl ?_
    rw [i2c_id r1]
    refine k_castore G X (i := 1) (z := cb) A_b26 rfl (by decide) (nar_char r1) ge_b26 (List.mem_of_getElem? (i := 0) rfl) d1_37 (pc' := 38) rfl (fun T h37 W37 A_b26 X => ?_)
    replace O := O.wr W37 ge_b26
    replace KP := KP.wr W37 (Or.inr sz_b26)
    replace S_CS := S_CS.wr W37
    replace X_b21 := X_b21.wr W37
    replace F_b21_coder := F_b21_coder.other W37 (Or.inl ne_b21_b26)
    replace F_b21_value := F_b21_value.other W37 (Or.inl ne_b21_b26)
    replace F_b21_hash := F_b21_hash.other W37 (Or.inl ne_b21_b26)
    replace F_b21_hashIsZero := F_b21_hashIsZero.other W37 (Or.inl ne_b21_b26)
    refine k_callI G X (argsL := [(.ref b26)]) (rest := [(.ref b21)]) rfl rfl (w8 hw) (w9 hw) (w6 hw) (w10 hw) (by decide) (str_init hw b21 b26 k26 2 (2 : Int32) cs (own2 ca cb) h37 n0 _ rfl (by decide) (by decide) X_b21 F_b21_value F_b21_coder (A_b26.congr fun i hi => by rcases (by omega : i = 0 ∨ i = 1) with rfl | rfl <;> rfl) ne_b21_b26 ⟨ge_b21, (List.mem_of_getElem? (i := 1) rfl)⟩ O S_CS hcs (fun i _ => own2_rng r0 r1 i) F_b21_hash F_b21_hashIsZero) d1_38 pd19 rfl (pc' := 41) rfl rfl (wd := 1) rfl (by decide) (by decide) (by decide) (by decide) (fun T h38 v sf38 X q => ?_)
    replace X := W.drop X
    obtain ⟨rfl, K38, bb, kb, sz_bb', SS, YB, FH, FZ⟩ := q
    have sz_bb := Nat.le_trans KP.1 sz_bb'
    replace S_CS := Sta_keepL S_CS K38 (allS (Pln_exa X_b21) (all0))
    replace O := O.keep K38 (allS ge_b21 (all0))
    replace KP := KP.trans K38 (allS (Or.inr sz_b21) (all0))
    replace X_b21 := X_b21.keep K38
    replace A_b26 := A_b26.keep K38 (by simp only [List.mem_cons, List.not_mem_nil, or_false, not_or]; exact (Ne.symm ne_b21_b26))
    show Go Γ n0 _ T (mkF Γ.m 41 #[.val (.int zl), .val (.int ca), .val (.int cb)] [(.ref b21)])
    refine k_reta G X d1_41 (t := (.object "java/lang/String")) rfl rfl rfl ?_ (by decide) (by decide)
    obtain rfl : n = 2 := by have h1 : zl.toInt ≠ 1 := fun q => c2 (of_toInt q); omega
    exact ⟨b21, bb, kb, rfl, sz_b21, sz_bb, KP, SS, YB, FH, FZ, (List.mem_of_getElem? (i := 1) rfl)⟩
  · refine k_new G X (w4 hw) (w5 hw) (w6 hw) d1_5 (pc' := 8) rfl (by decide) (by decide) (fun T h5 b5 s_b5 E5 X_b5 D5 X => ?_)
    have ge_b5 : n0 ≤ b5 := Nat.le_trans (Jvm.OwnK.Old_le O) (Nat.le_of_eq s_b5)
    have sz_b5 : h0.size ≤ b5 := Nat.le_trans KP.1 (Nat.le_of_eq s_b5)
    replace O := O.ext E5
    replace KP := KP.ext E5
    replace S_CS := S_CS.ext E5
    have F_b5_coder : Fld Z h5 b5 "java/lang/String" "coder" "B" (.int (0 : Int32)) := D5 (Or.inr (w31 hw)) (ty := .byte) (by decide)
    have F_b5_value : Fld Z h5 b5 "java/lang/String" "value" "[B" .null := D5 (Or.inr (w33 hw)) (ty := (.array .byte)) (by decide)
    have F_b5_hash : Fld Z h5 b5 "java/lang/String" "hash" "I" (.int (0 : Int32)) := D5 (Or.inl (w187 hw)) (ty := .int) (by decide)
    have F_b5_hashIsZero : Fld Z h5 b5 "java/lang/String" "hashIsZero" "Z" (.int (0 : Int32)) := D5 (Or.inl (w189 hw)) (ty := .boolean) (by decide)
    refine k_dup G X d1_8 (pc' := 9) rfl rfl ?_
    refine k_iconst G X d1_9 (pc' := 10) rfl (z := (1 : Int32)) (by decide) ?_
    refine k_newP G X (aty := .char) (n := 1) (cap := 1) (w7 hw) d1_10 (pc' := 12) rfl rfl (by decide) (by decide) (by decide) (by decide) (fun T h10 b10 k10 s_b10 E10 A_b10 X => ?_)
    have ne_b5_b10 : b5 ≠ b10 := Nat.ne_of_lt (Nat.lt_of_lt_of_eq X_b5.lt s_b10)
    have ge_b10 : n0 ≤ b10 := Nat.le_trans (Jvm.OwnK.Old_le O) (Nat.le_of_eq s_b10)
    have sz_b10 : h0.size ≤ b10 := Nat.le_trans KP.1 (Nat.le_of_eq s_b10)
    replace O := O.ext E10
    replace KP := KP.ext E10
    replace S_CS := S_CS.ext E10
    replace X_b5 := X_b5.ext E10
    replace F_b5_coder := F_b5_coder.ext E10
    replace F_b5_value := F_b5_value.ext E10
    replace F_b5_hash := F_b5_hash.ext E10
    replace F_b5_hashIsZero := F_b5_hashIsZero.ext E10
    replace A_b10 : Arf Z h10 b10 k10 .char 1 (fun _ => (.int (0 : Int32))) := A_b10
    refine k_dup G X d1_12 (pc' := 13) rfl rfl ?_
    refine k_iconst G X d1_13 (pc' := 14) rfl (z := (0 : Int32)) (by decide) ?_
    refine k_iloadN G X d1_14 (pc' := 15) rfl rfl ?_
    refine k_i2c G X d1_15 (pc' := 16) rfl rfl ?_
    rw [i2c_id r0]
    refine k_castore G X (i := 0) (z := ca) A_b10 rfl (by decide) (nar_char r0) ge_b10 (List.mem_of_getElem? (i := 0) rfl) d1_16 (pc' := 17) rfl (fun T h16 W16 A_b10 X => ?_)
    replace O := O.wr W16 ge_b10
    replace KP := KP.wr W16 (Or.inr sz_b10)
    replace S_CS := S_CS.wr W16
    replace X_b5 := X_b5.wr W16
    replace F_b5_coder := F_b5_coder.other W16 (Or.inl ne_b5_b10)
    replace F_b5_value := F_b5_value.other W16 (Or.inl ne_b5_b10)
    replace F_b5_hash := F_b5_hash.other W16 (Or.inl ne_b5_b10)
    replace F_b5_hashIsZero := F_b5_hashIsZero.other W16 (Or.inl ne_b5_b10)
    refine k_callI G X (argsL := [(.ref b10)]) (rest := [(.ref b5)]) rfl rfl (w8 hw) (w9 hw) (w6 hw) (w10 hw) (by decide) (str_init hw b5 b10 k10 1 (1 : Int32) cs (own2 ca cb) h16 n0 _ rfl (by decide) (by decide) X_b5 F_b5_value F_b5_coder (A_b10.congr fun i hi => by rw [show i = 0 by omega]; rfl) ne_b5_b10 ⟨ge_b5, (List.mem_of_getElem? (i := 1) rfl)⟩ O S_CS hcs (fun i _ => own2_rng r0 r1 i) F_b5_hash F_b5_hashIsZero) d1_17 pd19 rfl (pc' := 20) rfl rfl (wd := 1) rfl (by decide) (by decide) (by decide) (by decide) (fun T h17 v sf17 X q => ?_)
    replace X := W.drop X
    obtain ⟨rfl, K17, bb, kb, sz_bb', SS, YB, FH, FZ⟩ := q
    have sz_bb := Nat.le_trans KP.1 sz_bb'
    replace S_CS := Sta_keepL S_CS K17 (allS (Pln_exa X_b5) (all0))
    replace O := O.keep K17 (allS ge_b5 (all0))
    replace KP := KP.trans K17 (allS (Or.inr sz_b5) (all0))
    replace X_b5 := X_b5.keep K17
    replace A_b10 := A_b10.keep K17 (by simp only [List.mem_cons, List.not_mem_nil, or_false, not_or]; exact (Ne.symm ne_b5_b10))
    show Go Γ n0 _ T (mkF Γ.m 20 #[.val (.int zl), .val (.int ca), .val (.int cb)] [(.ref b5)])
    refine k_reta G X d1_20 (t := (.object "java/lang/String")) rfl rfl rfl ?_ (by decide) (by decide)
    obtain rfl : n = 1 := by have := congrArg Int32.toInt c2; omega
    exact ⟨b5, bb, kb, rfl, sz_b5, sz_bb, KP, SS, YB, FH, FZ, (List.mem_of_getElem? (i := 1) rfl)⟩
theorem pn_9 : plainFor (⟨"java/util/Objects", "requireNonNull", "(Ljava/lang/Object;Ljava/lang/String;)Ljava/lang/Object;"⟩ : MethodName) = true := plainFor_of_name (by first | (simp [plainName, overriddenIn]; done) | decide +kernel)
set_option maxRecDepth 65536 in
set_option maxHeartbeats 40000000 in
theorem rnn {Z : State} {a0 : Array Value} (hw : HW a0 Z) (a b : Addr) (h0 : Heap) (n0 : Nat) (sf0 : List Addr) :
    MetW Z consts_1 sf0 (⟨"java/util/Objects", "requireNonNull", "(Ljava/lang/Object;Ljava/lang/String;)Ljava/lang/Object;"⟩ : MethodName) jdk_31_method_11_code 2 (some (.object "java/lang/Object")) [] ({ frames := 0, cells := 0, slots := 0, locals := 0 } : Room) #[(.ref a), (.ref b)] h0 n0 (fun v h sf => v = some (.ref a) ∧ h = h0) := by
  refine k_body (hEW hw) (f := (fun m => mkF m 0 #[.val (.ref a), .val (.ref b)] [])) pn_9 (fun m => by first | (simp [entryFrame, mkF, argsToLocals, Value.category, maxLocals]; done) | rfl) ?_
  intro Γ T G X
  show Go Γ n0 _ T (mkF Γ.m 0 #[.val (.ref a), .val (.ref b)] [])
  refine k_aloadN G X d9_0 (pc' := 1) rfl rfl rfl ?_
  refine k_ifnonnull G X d9_1 (pc' := 13) rfl (by decide) (pc'' := 4) rfl rfl (fun _ c1 => ?_) (fun c1 => (absurd c1 (by simp)))
  refine k_aloadN G X d9_13 (pc' := 14) rfl rfl rfl ?_
  refine k_reta G X d9_14 (t := (.object "java/lang/Object")) rfl rfl rfl ?_ (by decide) (by decide)
  exact ⟨rfl, rfl⟩
theorem pn_41 : plainFor (⟨"jdk/internal/util/ArraysSupport", "signedHashCode", "(I[BII)I"⟩ : MethodName) = true := plainFor_of_name (by first | (simp [plainName, overriddenIn]; done) | decide +kernel)
set_option maxRecDepth 65536 in
set_option maxHeartbeats 40000000 in
theorem h_sg {Z : State} {a0 : Array Value} (hw : HW a0 Z) (d : Addr) (kd : ClassId) (f : Nat → Int32) (h0 : Heap) (n0 : Nat) (sf0 : List Addr) (A : Arf Z h0 d kd .byte 2 (fun i => .int (f i))) :
    MetW Z consts_1 sf0 (⟨"jdk/internal/util/ArraysSupport", "signedHashCode", "(I[BII)I"⟩ : MethodName) jdk_48_method_5_code 6 (some .int) [] ({ frames := 0, cells := 0, slots := 0, locals := 0 } : Room) #[(.int (0 : Int32)), (.ref d), (.int (0 : Int32)), (.int (2 : Int32))] h0 n0 (fun v h sf => ∃ r : Int32, v = some (.int r) ∧ h = h0) := by
  refine k_body (hEW hw) (f := (fun m => mkF m 0 #[.val (.int (0 : Int32)), .val (.ref d), .val (.int (0 : Int32)), .val (.int (2 : Int32)), .unset, .unset] [])) pn_41 (fun m => by first | (simp [entryFrame, mkF, argsToLocals, Value.category, maxLocals]; done) | rfl) ?_
  intro Γ T G X
  show Go Γ n0 _ T (mkF Γ.m 0 #[.val (.int (0 : Int32)), .val (.ref d), .val (.int (0 : Int32)), .val (.int (2 : Int32)), .unset, .unset] [])
  refine k_iloadN G X d41_0 (pc' := 1) rfl rfl ?_
  refine k_iloadN G X d41_1 (pc' := 2) rfl rfl ?_
  refine k_iadd G X d41_2 (pc' := 3) rfl (z := (2 : Int32)) (by decide) ?_
  refine k_istore G X d41_3 (pc' := 5) rfl (l' := #[.val (.int (0 : Int32)), .val (.ref d), .val (.int (0 : Int32)), .val (.int (2 : Int32)), .val (.int (2 : Int32)), .unset]) rfl ?_
  refine k_iloadN G X d41_5 (pc' := 6) rfl rfl ?_
  refine k_istore G X d41_6 (pc' := 8) rfl (l' := #[.val (.int (0 : Int32)), .val (.ref d), .val (.int (0 : Int32)), .val (.int (2 : Int32)), .val (.int (2 : Int32)), .val (.int (0 : Int32))]) rfl ?_
  refine k_iload G X d41_8 (pc' := 10) rfl rfl ?_
  refine k_iload G X d41_10 (pc' := 12) rfl rfl ?_
  refine k_icmp_ge G X d41_12 (pc' := 35) rfl (by decide) (pc'' := 15) rfl (fun c12 => (absurd c12 (by decide))) (fun c12 => ?_)
  refine k_bipush G X d41_15 (pc' := 17) rfl (z := (31 : Int32)) (by decide) ?_
  refine k_iloadN G X d41_17 (pc' := 18) rfl rfl ?_
  refine k_imul G X d41_18 (pc' := 19) rfl (z := (0 : Int32)) (by decide) ?_
  refine k_aloadN G X d41_19 (pc' := 20) rfl rfl rfl ?_
  refine k_iload G X d41_20 (pc' := 22) rfl rfl ?_
  refine k_baload G X (i := 0) (v := (.int (f 0))) A rfl (by decide) rfl d41_22 (pc' := 23) rfl ?_
  refine k_sipush G X d41_23 (pc' := 26) rfl (z := (255 : Int32)) (by decide) ?_
  refine k_iand G X d41_26 (pc' := 27) rfl rfl ?_
  refine k_iadd G X d41_27 (pc' := 28) rfl rfl ?_
  refine k_istoreN G X d41_28 (pc' := 29) rfl (l' := #[.val (.int ((0 : Int32) + ((f 0) &&& (255 : Int32)))), .val (.ref d), .val (.int (0 : Int32)), .val (.int (2 : Int32)), .val (.int (2 : Int32)), .val (.int (0 : Int32))]) rfl ?_
  refine k_iinc G X d41_29 (pc' := 32) rfl rfl (z := (1 : Int32)) (by decide) (l' := #[.val (.int ((0 : Int32) + ((f 0) &&& (255 : Int32)))), .val (.ref d), .val (.int (0 : Int32)), .val (.int (2 : Int32)), .val (.int (2 : Int32)), .val (.int (1 : Int32))]) rfl ?_
  refine k_goto G X d41_32 (by decide) (pc' := 8) rfl ?_
  refine k_iload G X d41_8 (pc' := 10) rfl rfl ?_
  refine k_iload G X d41_10 (pc' := 12) rfl rfl ?_
  refine k_icmp_ge G X d41_12 (pc' := 35) rfl (by decide) (pc'' := 15) rfl (fun c12 => (absurd c12 (by decide))) (fun c12 => ?_)
  refine k_bipush G X d41_15 (pc' := 17) rfl (z := (31 : Int32)) (by decide) ?_
  refine k_iloadN G X d41_17 (pc' := 18) rfl rfl ?_
  refine k_imul G X d41_18 (pc' := 19) rfl rfl ?_
  refine k_aloadN G X d41_19 (pc' := 20) rfl rfl rfl ?_
  refine k_iload G X d41_20 (pc' := 22) rfl rfl ?_
  refine k_baload G X (i := 1) (v := (.int (f 1))) A rfl (by decide) rfl d41_22 (pc' := 23) rfl ?_
  refine k_sipush G X d41_23 (pc' := 26) rfl (z := (255 : Int32)) (by decide) ?_
  refine k_iand G X d41_26 (pc' := 27) rfl rfl ?_
  refine k_iadd G X d41_27 (pc' := 28) rfl rfl ?_
  refine k_istoreN G X d41_28 (pc' := 29) rfl (l' := #[.val (.int (((31 : Int32) * ((0 : Int32) + ((f 0) &&& (255 : Int32)))) + ((f 1) &&& (255 : Int32)))), .val (.ref d), .val (.int (0 : Int32)), .val (.int (2 : Int32)), .val (.int (2 : Int32)), .val (.int (1 : Int32))]) rfl ?_
  refine k_iinc G X d41_29 (pc' := 32) rfl rfl (z := (2 : Int32)) (by decide) (l' := #[.val (.int (((31 : Int32) * ((0 : Int32) + ((f 0) &&& (255 : Int32)))) + ((f 1) &&& (255 : Int32)))), .val (.ref d), .val (.int (0 : Int32)), .val (.int (2 : Int32)), .val (.int (2 : Int32)), .val (.int (2 : Int32))]) rfl ?_
  refine k_goto G X d41_32 (by decide) (pc' := 8) rfl ?_
  refine k_iload G X d41_8 (pc' := 10) rfl rfl ?_
  refine k_iload G X d41_10 (pc' := 12) rfl rfl ?_
  refine k_icmp_ge G X d41_12 (pc' := 35) rfl (by decide) (pc'' := 15) rfl (fun c12 => ?_) (fun c12 => (absurd c12 (by decide)))
  refine k_iloadN G X d41_35 (pc' := 36) rfl rfl ?_
  refine k_reti G X d41_36 rfl ?_ (by decide) (by decide)
  exact ⟨_, rfl, rfl⟩
theorem pn_40 : plainFor (⟨"jdk/internal/util/ArraysSupport", "vectorizedHashCode", "(Ljava/lang/Object;IIII)I"⟩ : MethodName) = true := plainFor_of_name (by first | (simp [plainName, overriddenIn]; done) | decide +kernel)
set_option maxRecDepth 65536 in
set_option maxHeartbeats 40000000 in
theorem h_ve {Z : State} {a0 : Array Value} (hw : HW a0 Z) (d : Addr) (kd : ClassId) (f : Nat → Int32) (h0 : Heap) (n0 : Nat) (sf0 : List Addr) (A : Arf Z h0 d kd .byte 2 (fun i => .int (f i))) (YD : Exa Z h0 d "[B") :
    MetW Z consts_1 sf0 (⟨"jdk/internal/util/ArraysSupport", "vectorizedHashCode", "(Ljava/lang/Object;IIII)I"⟩ : MethodName) jdk_48_method_4_code 5 (some .int) [] ({ frames := 1, cells := 0, slots := 0, locals := 17 } : Room) #[(.ref d), (.int (0 : Int32)), (.int (2 : Int32)), (.int (0 : Int32)), (.int (4 : Int32))] h0 n0 (fun v h sf => ∃ r : Int32, v = some (.int r) ∧ h = h0) := by
  refine k_body (hEW hw) (f := (fun m => mkF m 0 #[.val (.ref d), .val (.int (0 : Int32)), .val (.int (2 : Int32)), .val (.int (0 : Int32)), .val (.int (4 : Int32))] [])) pn_40 (fun m => by first | (simp [entryFrame, mkF, argsToLocals, Value.category, maxLocals]; done) | rfl) ?_
  intro Γ T G X
  show Go Γ n0 _ T (mkF Γ.m 0 #[.val (.ref d), .val (.int (0 : Int32)), .val (.int (2 : Int32)), .val (.int (0 : Int32)), .val (.int (4 : Int32))] [])
  refine k_iload G X d40_0 (pc' := 2) rfl rfl ?_
  refine k_tswIn G X d40_2 (by decide) (off := 42) (by decide) (by decide) (pc' := 44) rfl ?_
  refine k_iloadN G X d40_44 (pc' := 45) rfl rfl ?_
  refine k_aloadN G X d40_45 (pc' := 46) rfl rfl rfl ?_
  refine k_castY G X (w221 hw) (Ins.self YD) d40_46 (pc' := 49) rfl (fun T X => ?_)
  refine k_iloadN G X d40_49 (pc' := 50) rfl rfl ?_
  refine k_iloadN G X d40_50 (pc' := 51) rfl rfl ?_
  refine k_callS G X (argsL := [(.int (0 : Int32)), (.ref d), (.int (0 : Int32)), (.int (2 : Int32))]) (rest := []) rfl (w223 hw) (w224 hw) (w219 hw) (w225 hw) (by decide) (h_sg hw d kd f h0 n0 _ A) d40_51 pd20 rfl (pc' := 54) rfl rfl (wd := 0) rfl (by decide) (by decide) (by decide) (by decide) (fun T h51 v sf51 X q => ?_)
  replace X := W.drop X
  obtain ⟨r, rfl, eq_r⟩ := q
  replace X := X.eq eq_r
  show Go Γ n0 _ T (mkF Γ.m 54 #[.val (.ref d), .val (.int (0 : Int32)), .val (.int (2 : Int32)), .val (.int (0 : Int32)), .val (.int (4 : Int32))] [(.int r)])
  refine k_goto G X d40_54 (by decide) (pc' := 157) rfl ?_
  refine k_reti G X d40_157 rfl ?_ (by decide) (by decide)
  exact ⟨_, rfl, rfl⟩
theorem pn_36 : plainFor (⟨"java/lang/StringLatin1", "hashCode", "([B)I"⟩ : MethodName) = true := plainFor_of_name (by first | (simp [plainName, overriddenIn]; done) | decide +kernel)
set_option maxRecDepth 65536 in
set_option maxHeartbeats 40000000 in
theorem h_l1 {Z : State} {a0 : Array Value} (hw : HW a0 Z) (d : Addr) (kd : ClassId) (f : Nat → Int32) (m : Nat) (zm : Int32) (h0 : Heap) (n0 : Nat) (sf0 : List Addr) (A : Arf Z h0 d kd .byte m (fun i => .int (f i))) (hm : zm.toInt = m) (YD : Exa Z h0 d "[B") (hm12 : (m = 1 ∧ zm = 1) ∨ (m = 2 ∧ zm = 2)) :
    MetW Z consts_1 sf0 (⟨"java/lang/StringLatin1", "hashCode", "([B)I"⟩ : MethodName) jdk_43_method_21_code 1 (some .int) [] ({ frames := 2, cells := 0, slots := 0, locals := 33 } : Room) #[(.ref d)] h0 n0 (fun v h sf => ∃ r : Int32, v = some (.int r) ∧ h = h0) := by
  refine k_body (hEW hw) (f := (fun m => mkF m 0 #[.val (.ref d)] [])) pn_36 (fun m => by first | (simp [entryFrame, mkF, argsToLocals, Value.category, maxLocals]; done) | rfl) ?_
  intro Γ T G X
  show Go Γ n0 _ T (mkF Γ.m 0 #[.val (.ref d)] [])
  refine k_aloadN G X d36_0 (pc' := 1) rfl rfl rfl ?_
  refine k_alen G X (z := zm) A hm d36_1 (pc' := 2) rfl ?_
  rcases hm12 with ⟨rfl, rfl⟩ | ⟨rfl, rfl⟩
  · refine k_lswHit G X d36_2 (by decide) (a := 1) (off := 30) (by decide) (by decide) (pc' := 32) rfl ?_
    refine k_aloadN G X d36_32 (pc' := 33) rfl rfl rfl ?_
    refine k_iconst G X d36_33 (pc' := 34) rfl (z := (0 : Int32)) (by decide) ?_
    refine k_baload G X (i := 0) (v := (.int (f 0))) A rfl (by decide) rfl d36_34 (pc' := 35) rfl ?_
    refine k_sipush G X d36_35 (pc' := 38) rfl (z := (255 : Int32)) (by decide) ?_
    refine k_iand G X d36_38 (pc' := 39) rfl rfl ?_
    refine k_goto G X d36_39 (by decide) (pc' := 51) rfl ?_
    refine k_reti G X d36_51 rfl ?_ (by decide) (by decide)
    exact ⟨_, rfl, rfl⟩
  · refine k_lswMiss G X d36_2 (by decide) (by decide) (by decide) (pc' := 42) rfl ?_
    refine k_aloadN G X d36_42 (pc' := 43) rfl rfl rfl ?_
    refine k_iconst G X d36_43 (pc' := 44) rfl (z := (0 : Int32)) (by decide) ?_
    refine k_aloadN G X d36_44 (pc' := 45) rfl rfl rfl ?_
    refine k_alen G X (z := (2 : Int32)) A rfl d36_45 (pc' := 46) rfl ?_
    refine k_iconst G X d36_46 (pc' := 47) rfl (z := (0 : Int32)) (by decide) ?_
    refine k_iconst G X d36_47 (pc' := 48) rfl (z := (4 : Int32)) (by decide) ?_
    refine k_callS G X (argsL := [(.ref d), (.int (0 : Int32)), (.int (2 : Int32)), (.int (0 : Int32)), (.int (4 : Int32))]) (rest := []) rfl (w217 hw) (w218 hw) (w219 hw) (w220 hw) (by decide) (h_ve hw d kd f h0 n0 _ A YD) d36_48 pd21 rfl (pc' := 51) rfl rfl (wd := 0) rfl (by decide) (by decide) (by decide) (by decide) (fun T h48 v sf48 X q => ?_)
    replace X := W.drop X
    obtain ⟨r, rfl, eq_r⟩ := q
    replace X := X.eq eq_r
    show Go Γ n0 _ T (mkF Γ.m 51 #[.val (.ref d)] [(.int r)])
    refine k_reti G X d36_51 rfl ?_ (by decide) (by decide)
    exact ⟨_, rfl, rfl⟩
theorem pn_34 : plainFor (⟨"java/lang/String", "hashCode", "()I"⟩ : MethodName) = true := plainFor_of_name (by first | (simp [plainName, overriddenIn]; done) | decide +kernel)
set_option maxRecDepth 65536 in
set_option maxHeartbeats 40000000 in
theorem h_s {Z : State} {a0 : Array Value} (hw : HW a0 Z) (s d : Addr) (kd : ClassId) (m : Nat) (zm cs : Int32) (f : Nat → Int32) (h0 : Heap) (n0 : Nat) (sf0 : List Addr) (gm_s : n0 ≤ s ∧ s ∈ sf0) (SS : Str Z h0 s d kd m f) (hm : zm.toInt = m) (YD : Exa Z h0 d "[B") (FH : Fld Z h0 s "java/lang/String" "hash" "I" (.int (0 : Int32))) (FZ : Fld Z h0 s "java/lang/String" "hashIsZero" "Z" (.int (0 : Int32))) (hm12 : (m = 1 ∧ zm = 1) ∨ (m = 2 ∧ zm = 2)) (ne_d_s : d ≠ s) (S_CS : Sta Z h0 "java/lang/String" "COMPACT_STRINGS" "Z" (.int cs)) (hcs : cs ≠ 0) :
    MetW Z consts_1 sf0 (⟨"java/lang/String", "hashCode", "()I"⟩ : MethodName) jdk_42_method_78_code 2 (some .int) [] ({ frames := 3, cells := 0, slots := 0, locals := 45 } : Room) #[(.ref s)] h0 n0 (fun v h sf => ∃ r : Int32, v = some (.int r) ∧ Keep h0 h [s] ∧ Str Z h s d kd m f) := by
  refine k_body (hEW hw) (f := (fun m => mkF m 0 #[.val (.ref s), .unset] [])) pn_34 (fun m => by first | (simp [entryFrame, mkF, argsToLocals, Value.category, maxLocals]; done) | rfl) ?_
  intro Γ T G X
  have ge_s := gm_s.1
  obtain ⟨SE, SC, SV, SA⟩ := id SS
  have KP := Keep.refl h0 [s]
  show Go Γ n0 _ T (mkF Γ.m 0 #[.val (.ref s), .unset] [])
  refine k_aloadN G X d34_0 (pc' := 1) rfl rfl rfl ?_
  refine k_getF G X (host := "") (Or.inl (w186 hw)) Via.refl FH d34_1 (pc' := 4) rfl (fun T X => ?_)
  refine k_istoreN G X d34_4 (pc' := 5) rfl (l' := #[.val (.ref s), .val (.int (0 : Int32))]) rfl ?_
  refine k_iloadN G X d34_5 (pc' := 6) rfl rfl ?_
  refine k_if_ne G X d34_6 (pc' := 58) rfl (by decide) (pc'' := 9) rfl (fun c6 => (absurd c6 (by decide))) (fun c6 => ?_)
  refine k_aloadN G X d34_9 (pc' := 10) rfl rfl rfl ?_
  refine k_getF G X (host := "") (Or.inl (w188 hw)) Via.refl FZ d34_10 (pc' := 13) rfl (fun T X => ?_)
  refine k_if_ne G X d34_13 (pc' := 58) rfl (by decide) (pc'' := 16) rfl (fun c13 => (absurd c13 (by decide))) (fun c13 => ?_)
  refine k_aloadN G X d34_16 (pc' := 17) rfl rfl rfl ?_
  refine k_callV G X (argsL := []) (rest := []) rfl SE (w190 hw) (w191 hw) (nf_sel (w193 hw)) (w193 hw) (w192 hw) (w6 hw) (w194 hw) (by decide) (str_lat hw s d kd m zm cs f h0 n0 _ SS hm S_CS hcs) d34_17 pd16 rfl (pc' := 20) rfl rfl (wd := 0) rfl (by decide) (by decide) (by decide) (by decide) (fun T h17 v sf17 X q => ?_)
  replace X := W.drop X
  obtain ⟨rfl, e17⟩ := q
  replace X := X.eq e17
  show Go Γ n0 _ T (mkF Γ.m 20 #[.val (.ref s), .val (.int (0 : Int32))] [(.int (1 : Int32))])
  refine k_if_eq G X d34_20 (pc' := 33) rfl (by decide) (pc'' := 23) rfl (fun c20 => (absurd c20 (by decide))) (fun c20 => ?_)
  refine k_aloadN G X d34_23 (pc' := 24) rfl rfl rfl ?_
  refine k_getF G X (host := "") (Or.inl (w32 hw)) Via.refl SV d34_24 (pc' := 27) rfl (fun T X => ?_)
  refine k_callS G X (argsL := [(.ref d)]) (rest := []) rfl (w195 hw) (w196 hw) (w197 hw) (w198 hw) (by decide) (h_l1 hw d kd f m zm h0 n0 _ SS.2.2.2 hm YD hm12) d34_27 pd22 rfl (pc' := 30) rfl rfl (wd := 0) rfl (by decide) (by decide) (by decide) (by decide) (fun T h27 v sf27 X q => ?_)
  replace X := W.drop X
  obtain ⟨r, rfl, eq_r⟩ := q
  replace X := X.eq eq_r
  show Go Γ n0 _ T (mkF Γ.m 30 #[.val (.ref s), .val (.int (0 : Int32))] [(.int r)])
  refine k_goto G X d34_30 (by decide) (pc' := 40) rfl ?_
  refine k_istoreN G X d34_40 (pc' := 41) rfl (l' := #[.val (.ref s), .val (.int r)]) rfl ?_
  refine k_iloadN G X d34_41 (pc' := 42) rfl rfl ?_
  refine k_if_ne G X d34_42 (pc' := 53) rfl (by decide) (pc'' := 45) rfl (fun c42 => ?_) (fun c42 => ?_)
  · refine k_aloadN G X d34_53 (pc' := 54) rfl rfl rfl ?_
    refine k_iloadN G X d34_54 (pc' := 55) rfl rfl ?_
    refine k_putF G X (host := "") (Or.inl (w186 hw)) Via.refl FH SE (Or.inl (w187 hw)) (w5 hw) (ty := .int) (by decide) rfl rfl ge_s (List.mem_append_right [] gm_s.2) d34_55 (pc' := 58) rfl (fun T h55 W55 X => ?_)
    replace SE := SE.wr W55
    replace SC := SC.other W55 (Or.inr (slot_ne (Or.inr (w31 hw)) (Or.inl (w187 hw)) (by decide) (t := .byte) (t' := .int) (by decide) (by decide)))
    replace SV := SV.other W55 (Or.inr (slot_ne (Or.inr (w33 hw)) (Or.inl (w187 hw)) (by decide) (t := (.array .byte)) (t' := .int) (by decide) (by decide)))
    replace SA := SA.other W55 ne_d_s
    replace S_CS := S_CS.wr W55
    replace FH := FH.same W55
    replace FZ := FZ.other W55 (Or.inr (slot_ne (Or.inl (w189 hw)) (Or.inl (w187 hw)) (by decide) (t := .boolean) (t' := .int) (by decide) (by decide)))
    replace KP := KP.wr W55 (Or.inl (List.mem_of_getElem? (i := 0) rfl))
    refine k_iloadN G X d34_58 (pc' := 59) rfl rfl ?_
    refine k_reti G X d34_59 rfl ?_ (by decide) (by decide)
    exact ⟨_, rfl, KP, SE, SC, SV, SA⟩
  · refine k_aloadN G X d34_45 (pc' := 46) rfl rfl rfl ?_
    refine k_iconst G X d34_46 (pc' := 47) rfl (z := (1 : Int32)) (by decide) ?_
    refine k_putFN G X (w188 hw) Via.refl FZ SE (Or.inl (w189 hw)) (w5 hw) (ty := .boolean) (v' := (.int (1 : Int32))) (by decide) rfl rfl ge_s (List.mem_append_right [] gm_s.2) d34_47 (pc' := 50) rfl (fun T h47 W47 X => ?_)
    replace SE := SE.wr W47
    replace SC := SC.other W47 (Or.inr (slot_ne (Or.inr (w31 hw)) (Or.inl (w189 hw)) (by decide) (t := .byte) (t' := .boolean) (by decide) (by decide)))
    replace SV := SV.other W47 (Or.inr (slot_ne (Or.inr (w33 hw)) (Or.inl (w189 hw)) (by decide) (t := (.array .byte)) (t' := .boolean) (by decide) (by decide)))
    replace SA := SA.other W47 ne_d_s
    replace S_CS := S_CS.wr W47
    replace FH := FH.other W47 (Or.inr (slot_ne (Or.inl (w187 hw)) (Or.inl (w189 hw)) (by decide) (t := .int) (t' := .boolean) (by decide) (by decide)))
    replace FZ := FZ.same W47
    replace KP := KP.wr W47 (Or.inl (List.mem_of_getElem? (i := 0) rfl))
    refine k_goto G X d34_50 (by decide) (pc' := 58) rfl ?_
    refine k_iloadN G X d34_58 (pc' := 59) rfl rfl ?_
    refine k_reti G X d34_59 rfl ?_ (by decide) (by decide)
    exact ⟨_, rfl, KP, SE, SC, SV, SA⟩
theorem pn_33 : plainFor (⟨"java/util/Arrays", "hashCode", "([Ljava/lang/Object;)I"⟩ : MethodName) = true := plainFor_of_name (by first | (simp [plainName, overriddenIn]; done) | decide +kernel)
set_option maxRecDepth 65536 in
set_option maxHeartbeats 40000000 in
theorem h_a {Z : State} {a0 : Array Value} (hw : HW a0 Z) (s t d e aa : Addr) (kd ke ka : ClassId) (m m' : Nat) (zm zm' cs : Int32) (f g : Nat → Int32) (fa : Nat → Value) (h0 : Heap) (n0 : Nat) (sf0 : List Addr) (gm_s : n0 ≤ s ∧ s ∈ sf0) (gm_t : n0 ≤ t ∧ t ∈ sf0) (SS : Str Z h0 s d kd m f) (TT : Str Z h0 t e ke m' g) (hm : zm.toInt = m) (hm' : zm'.toInt = m') (YD : Exa Z h0 d "[B") (YE : Exa Z h0 e "[B") (FH : Fld Z h0 s "java/lang/String" "hash" "I" (.int (0 : Int32))) (FZ : Fld Z h0 s "java/lang/String" "hashIsZero" "Z" (.int (0 : Int32))) (GH : Fld Z h0 t "java/lang/String" "hash" "I" (.int (0 : Int32))) (GZ : Fld Z h0 t "java/lang/String" "hashIsZero" "Z" (.int (0 : Int32))) (hm12 : (m = 1 ∧ zm = 1) ∨ (m = 2 ∧ zm = 2)) (hm12' : (m' = 1 ∧ zm' = 1) ∨ (m' = 2 ∧ zm' = 2)) (ne_s_t : s ≠ t) (S_CS : Sta Z h0 "java/lang/String" "COMPACT_STRINGS" "Z" (.int cs)) (hcs : cs ≠ 0) (AA : Arf Z h0 aa ka (.object "java/lang/Object") 2 fa) (ha0 : fa 0 = .ref s) (ha1 : fa 1 = .ref t) (ne_aa_s : aa ≠ s) (ne_aa_t : aa ≠ t) :
    MetW Z consts_1 sf0 (⟨"java/util/Arrays", "hashCode", "([Ljava/lang/Object;)I"⟩ : MethodName) jdk_65_method_157_code 6 (some .int) [] ({ frames := 4, cells := 0, slots := 0, locals := 59 } : Room) #[(.ref aa)] h0 n0 (fun v h sf => ∃ r : Int32, v = some (.int r) ∧ Keep h0 h [s, t] ∧ Str Z h s d kd m f ∧ Str Z h t e ke m' g) := by
  refine k_body (hEW hw) (f := (fun m => mkF m 0 #[.val (.ref aa), .unset, .unset, .unset, .unset, .unset] [])) pn_33 (fun m => by first | (simp [entryFrame, mkF, argsToLocals, Value.category, maxLocals]; done) | rfl) ?_
  intro Γ T G X
  have ge_s := gm_s.1
  have ge_t := gm_t.1
  have KP := Keep.refl h0 [s, t]
  have SE := SS.1
  have TE := TT.1
  have ne_d_s : d ≠ s := ne_exa YD SE (by decide)
  have ne_e_s : e ≠ s := ne_exa YE SE (by decide)
  have ne_d_t : d ≠ t := ne_exa YD TE (by decide)
  have ne_e_t : e ≠ t := ne_exa YE TE (by decide)
  show Go Γ n0 _ T (mkF Γ.m 0 #[.val (.ref aa), .unset, .unset, .unset, .unset, .unset] [])
  refine k_aloadN G X d33_0 (pc' := 1) rfl rfl rfl ?_
  refine k_ifnonnull G X d33_1 (pc' := 6) rfl (by decide) (pc'' := 4) rfl rfl (fun _ c1 => ?_) (fun c1 => (absurd c1 (by simp)))
  refine k_iconst G X d33_6 (pc' := 7) rfl (z := (1 : Int32)) (by decide) ?_
  refine k_istoreN G X d33_7 (pc' := 8) rfl (l' := #[.val (.ref aa), .val (.int (1 : Int32)), .unset, .unset, .unset, .unset]) rfl ?_
  refine k_aloadN G X d33_8 (pc' := 9) rfl rfl rfl ?_
  refine k_astoreN G X d33_9 (pc' := 10) rfl rfl (l' := #[.val (.ref aa), .val (.int (1 : Int32)), .val (.ref aa), .unset, .unset, .unset]) rfl ?_
  refine k_aloadN G X d33_10 (pc' := 11) rfl rfl rfl ?_
  refine k_alen G X (z := (2 : Int32)) AA rfl d33_11 (pc' := 12) rfl ?_
  refine k_istoreN G X d33_12 (pc' := 13) rfl (l' := #[.val (.ref aa), .val (.int (1 : Int32)), .val (.ref aa), .val (.int (2 : Int32)), .unset, .unset]) rfl ?_
  refine k_iconst G X d33_13 (pc' := 14) rfl (z := (0 : Int32)) (by decide) ?_
  refine k_istore G X d33_14 (pc' := 16) rfl (l' := #[.val (.ref aa), .val (.int (1 : Int32)), .val (.ref aa), .val (.int (2 : Int32)), .val (.int (0 : Int32)), .unset]) rfl ?_
  refine k_iload G X d33_16 (pc' := 18) rfl rfl ?_
  refine k_iloadN G X d33_18 (pc' := 19) rfl rfl ?_
  refine k_icmp_ge G X d33_19 (pc' := 54) rfl (by decide) (pc'' := 22) rfl (fun c19 => (absurd c19 (by decide))) (fun c19 => ?_)
  refine k_aloadN G X d33_22 (pc' := 23) rfl rfl rfl ?_
  refine k_iload G X d33_23 (pc' := 25) rfl rfl ?_
  refine k_aaload G X (i := 0) (v := (.ref s)) AA rfl rfl (by decide) ha0 d33_25 (pc' := 26) rfl ?_
  refine k_astore G X d33_26 (pc' := 28) rfl rfl (l' := #[.val (.ref aa), .val (.int (1 : Int32)), .val (.ref aa), .val (.int (2 : Int32)), .val (.int (0 : Int32)), .val (.ref s)]) rfl ?_
  refine k_bipush G X d33_28 (pc' := 30) rfl (z := (31 : Int32)) (by decide) ?_
  refine k_iloadN G X d33_30 (pc' := 31) rfl rfl ?_
  refine k_imul G X d33_31 (pc' := 32) rfl (z := (31 : Int32)) (by decide) ?_
  refine k_aload G X d33_32 (pc' := 34) rfl rfl rfl ?_
  refine k_ifnonnull G X d33_34 (pc' := 41) rfl (by decide) (pc'' := 37) rfl rfl (fun _ c34 => ?_) (fun c34 => (absurd c34 (by simp)))
  refine k_aload G X d33_41 (pc' := 43) rfl rfl rfl ?_
  refine k_callV G X (argsL := []) (rest := [(.int (31 : Int32))]) rfl SE (w180 hw) (w181 hw) (nf_root (y := (⟨"java/lang/Object", "hashCode", "()I"⟩ : MethodName)) (w227 hw)) (w183 hw) (w184 hw) (w6 hw) (w185 hw) (by decide) (h_s hw s d kd m zm cs f h0 n0 _ ⟨ge_s, (List.mem_append_right [] gm_s.2)⟩ SS hm YD FH FZ hm12 ne_d_s S_CS hcs) d33_43 pd9 rfl (pc' := 46) rfl rfl (wd := 1) rfl (by decide) (by decide) (by decide) (by decide) (fun T h43 v sf43 X q => ?_)
  replace X := W.drop X
  obtain ⟨rs, rfl, Krs, SS'⟩ := q
  replace S_CS := Sta_keepL S_CS Krs (allS (Pln_exa SE) (all0))
  replace TT := TT.keep Krs (by simp only [List.mem_cons, List.not_mem_nil, or_false, not_or]; exact (Ne.symm ne_s_t)) (by simp only [List.mem_cons, List.not_mem_nil, or_false, not_or]; exact ne_e_s)
  replace SE := SE.keep Krs
  replace TE := TE.keep Krs
  replace YD := YD.keep Krs
  replace YE := YE.keep Krs
  replace GH := GH.keep Krs (by simp only [List.mem_cons, List.not_mem_nil, or_false, not_or]; exact (Ne.symm ne_s_t))
  replace GZ := GZ.keep Krs (by simp only [List.mem_cons, List.not_mem_nil, or_false, not_or]; exact (Ne.symm ne_s_t))
  replace AA := AA.keep Krs (by simp only [List.mem_cons, List.not_mem_nil, or_false, not_or]; exact ne_aa_s)
  replace KP := KP.trans Krs (allS (Or.inl (List.mem_of_getElem? (i := 0) rfl)) (all0))
  have SS := SS'
  show Go Γ n0 _ T (mkF Γ.m 46 #[.val (.ref aa), .val (.int (1 : Int32)), .val (.ref aa), .val (.int (2 : Int32)), .val (.int (0 : Int32)), .val (.ref s)] [(.int rs), (.int (31 : Int32))])
  refine k_iadd G X d33_46 (pc' := 47) rfl rfl ?_
  refine k_istoreN G X d33_47 (pc' := 48) rfl (l' := #[.val (.ref aa), .val (.int ((31 : Int32) + rs)), .val (.ref aa), .val (.int (2 : Int32)), .val (.int (0 : Int32)), .val (.ref s)]) rfl ?_
  refine k_iinc G X d33_48 (pc' := 51) rfl rfl (z := (1 : Int32)) (by decide) (l' := #[.val (.ref aa), .val (.int ((31 : Int32) + rs)), .val (.ref aa), .val (.int (2 : Int32)), .val (.int (1 : Int32)), .val (.ref s)]) rfl ?_
  refine k_goto G X d33_51 (by decide) (pc' := 16) rfl ?_
  refine k_iload G X d33_16 (pc' := 18) rfl rfl ?_
  refine k_iloadN G X d33_18 (pc' := 19) rfl rfl ?_
  refine k_icmp_ge G X d33_19 (pc' := 54) rfl (by decide) (pc'' := 22) rfl (fun c19 => (absurd c19 (by decide))) (fun c19 => ?_)
  refine k_aloadN G X d33_22 (pc' := 23) rfl rfl rfl ?_
  refine k_iload G X d33_23 (pc' := 25) rfl rfl ?_
  refine k_aaload G X (i := 1) (v := (.ref t)) AA rfl rfl (by decide) ha1 d33_25 (pc' := 26) rfl ?_
  refine k_astore G X d33_26 (pc' := 28) rfl rfl (l' := #[.val (.ref aa), .val (.int ((31 : Int32) + rs)), .val (.ref aa), .val (.int (2 : Int32)), .val (.int (1 : Int32)), .val (.ref t)]) rfl ?_
  refine k_bipush G X d33_28 (pc' := 30) rfl (z := (31 : Int32)) (by decide) ?_
  refine k_iloadN G X d33_30 (pc' := 31) rfl rfl ?_
  refine k_imul G X d33_31 (pc' := 32) rfl rfl ?_
  refine k_aload G X d33_32 (pc' := 34) rfl rfl rfl ?_
  refine k_ifnonnull G X d33_34 (pc' := 41) rfl (by decide) (pc'' := 37) rfl rfl (fun _ c34 => ?_) (fun c34 => (absurd c34 (by simp)))
  refine k_aload G X d33_41 (pc' := 43) rfl rfl rfl ?_
  refine k_callV G X (argsL := []) (rest := [(.int ((31 : Int32) * ((31 : Int32) + rs)))]) rfl TE (w180 hw) (w181 hw) (nf_root (y := (⟨"java/lang/Object", "hashCode", "()I"⟩ : MethodName)) (w227 hw)) (w183 hw) (w184 hw) (w6 hw) (w185 hw) (by decide) (h_s hw t e ke m' zm' cs g h43 n0 _ ⟨ge_t, (List.mem_append_right [] gm_t.2)⟩ TT hm' YE GH GZ hm12' ne_e_t S_CS hcs) d33_43 pd9 rfl (pc' := 46) rfl rfl (wd := 1) rfl (by decide) (by decide) (by decide) (by decide) (fun T h43 v sf43 X q => ?_)
  replace X := W.drop X
  obtain ⟨rt, rfl, Krt, TT'⟩ := q
  replace S_CS := Sta_keepL S_CS Krt (allS (Pln_exa TE) (all0))
  replace SE := SE.keep Krt
  replace TE := TE.keep Krt
  replace YD := YD.keep Krt
  replace YE := YE.keep Krt
  replace AA := AA.keep Krt (by simp only [List.mem_cons, List.not_mem_nil, or_false, not_or]; exact ne_aa_t)
  replace KP := KP.trans Krt (allS (Or.inl (List.mem_of_getElem? (i := 1) rfl)) (all0))
  replace SS := SS.keep Krt (by simp only [List.mem_cons, List.not_mem_nil, or_false, not_or]; exact ne_s_t) (by simp only [List.mem_cons, List.not_mem_nil, or_false, not_or]; exact ne_d_t)
  have TT := TT'
  show Go Γ n0 _ T (mkF Γ.m 46 #[.val (.ref aa), .val (.int ((31 : Int32) + rs)), .val (.ref aa), .val (.int (2 : Int32)), .val (.int (1 : Int32)), .val (.ref t)] [(.int rt), (.int ((31 : Int32) * ((31 : Int32) + rs)))])
  refine k_iadd G X d33_46 (pc' := 47) rfl rfl ?_
  refine k_istoreN G X d33_47 (pc' := 48) rfl (l' := #[.val (.ref aa), .val (.int (((31 : Int32) * ((31 : Int32) + rs)) + rt)), .val (.ref aa), .val (.int (2 : Int32)), .val (.int (1 : Int32)), .val (.ref t)]) rfl ?_
  refine k_iinc G X d33_48 (pc' := 51) rfl rfl (z := (2 : Int32)) (by decide) (l' := #[.val (.ref aa), .val (.int (((31 : Int32) * ((31 : Int32) + rs)) + rt)), .val (.ref aa), .val (.int (2 : Int32)), .val (.int (2 : Int32)), .val (.ref t)]) rfl ?_
  refine k_goto G X d33_51 (by decide) (pc' := 16) rfl ?_
  refine k_iload G X d33_16 (pc' := 18) rfl rfl ?_
  refine k_iloadN G X d33_18 (pc' := 19) rfl rfl ?_
  refine k_icmp_ge G X d33_19 (pc' := 54) rfl (by decide) (pc'' := 22) rfl (fun c19 => ?_) (fun c19 => (absurd c19 (by decide)))
  refine k_iloadN G X d33_54 (pc' := 55) rfl rfl ?_
  refine k_reti G X d33_55 rfl ?_ (by decide) (by decide)
  exact ⟨_, rfl, KP, SS, TT⟩
theorem pn_32 : plainFor (⟨"java/util/Objects", "hash", "([Ljava/lang/Object;)I"⟩ : MethodName) = true := plainFor_of_name (by first | (simp [plainName, overriddenIn]; done) | decide +kernel)
set_option maxRecDepth 65536 in
set_option maxHeartbeats 40000000 in
theorem h_o {Z : State} {a0 : Array Value} (hw : HW a0 Z) (s t d e aa : Addr) (kd ke ka : ClassId) (m m' : Nat) (zm zm' cs : Int32) (f g : Nat → Int32) (fa : Nat → Value) (h0 : Heap) (n0 : Nat) (sf0 : List Addr) (gm_s : n0 ≤ s ∧ s ∈ sf0) (gm_t : n0 ≤ t ∧ t ∈ sf0) (SS : Str Z h0 s d kd m f) (TT : Str Z h0 t e ke m' g) (hm : zm.toInt = m) (hm' : zm'.toInt = m') (YD : Exa Z h0 d "[B") (YE : Exa Z h0 e "[B") (FH : Fld Z h0 s "java/lang/String" "hash" "I" (.int (0 : Int32))) (FZ : Fld Z h0 s "java/lang/String" "hashIsZero" "Z" (.int (0 : Int32))) (GH : Fld Z h0 t "java/lang/String" "hash" "I" (.int (0 : Int32))) (GZ : Fld Z h0 t "java/lang/String" "hashIsZero" "Z" (.int (0 : Int32))) (hm12 : (m = 1 ∧ zm = 1) ∨ (m = 2 ∧ zm = 2)) (hm12' : (m' = 1 ∧ zm' = 1) ∨ (m' = 2 ∧ zm' = 2)) (ne_s_t : s ≠ t) (S_CS : Sta Z h0 "java/lang/String" "COMPACT_STRINGS" "Z" (.int cs)) (hcs : cs ≠ 0) (AA : Arf Z h0 aa ka (.object "java/lang/Object") 2 fa) (ha0 : fa 0 = .ref s) (ha1 : fa 1 = .ref t) (ne_aa_s : aa ≠ s) (ne_aa_t : aa ≠ t) :
    MetW Z consts_1 sf0 (⟨"java/util/Objects", "hash", "([Ljava/lang/Object;)I"⟩ : MethodName) jdk_31_method_5_code 1 (some .int) [] ({ frames := 5, cells := 0, slots := 0, locals := 76 } : Room) #[(.ref aa)] h0 n0 (fun v h sf => ∃ r : Int32, v = some (.int r) ∧ Keep h0 h [s, t] ∧ Str Z h s d kd m f ∧ Str Z h t e ke m' g) := by
  refine k_body (hEW hw) (f := (fun m => mkF m 0 #[.val (.ref aa)] [])) pn_32 (fun m => by first | (simp [entryFrame, mkF, argsToLocals, Value.category, maxLocals]; done) | rfl) ?_
  intro Γ T G X
  have ge_s := gm_s.1
  have ge_t := gm_t.1
  have KP := Keep.refl h0 [s, t]
  have SE := SS.1
  have TE := TT.1
  have ne_d_s : d ≠ s := ne_exa YD SE (by decide)
  have ne_e_s : e ≠ s := ne_exa YE SE (by decide)
  have ne_d_t : d ≠ t := ne_exa YD TE (by decide)
  have ne_e_t : e ≠ t := ne_exa YE TE (by decide)
  show Go Γ n0 _ T (mkF Γ.m 0 #[.val (.ref aa)] [])
  refine k_aloadN G X d32_0 (pc' := 1) rfl rfl rfl ?_
  refine k_callS G X (argsL := [(.ref aa)]) (rest := []) rfl (w177 hw) (w178 hw) (w156 hw) (w179 hw) (by decide) (h_a hw s t d e aa kd ke ka m m' zm zm' cs f g fa h0 n0 _ ⟨ge_s, (List.mem_append_right [] gm_s.2)⟩ ⟨ge_t, (List.mem_append_right [] gm_t.2)⟩ SS TT hm hm' YD YE FH FZ GH GZ hm12 hm12' ne_s_t S_CS hcs AA ha0 ha1 ne_aa_s ne_aa_t) d32_1 pd23 rfl (pc' := 4) rfl rfl (wd := 0) rfl (by decide) (by decide) (by decide) (by decide) (fun T h1 v sf1 X q => ?_)
  replace X := W.drop X
  obtain ⟨r, rfl, q⟩ := q
  show Go Γ n0 _ T (mkF Γ.m 4 #[.val (.ref aa)] [(.int r)])
  refine k_reti G X d32_4 rfl ?_ (by decide) (by decide)
  exact ⟨_, rfl, q⟩
theorem pn_8 : plainFor (⟨"com/example/changeline/changeline/change/TableName", "<init>", "(Ljava/lang/String;Ljava/lang/String;)V"⟩ : MethodName) = true := plainFor_of_name (by first | (simp [plainName, overriddenIn]; done) | decide +kernel)
set_option maxRecDepth 65536 in
set_option maxHeartbeats 40000000 in
theorem tn_i {Z : State} {a0 : Array Value} (hw : HW a0 Z) (o s t d e : Addr) (kd ke : ClassId) (m m' : Nat) (zm zm' cs : Int32) (f g : Nat → Int32) (h0 : Heap) (n0 : Nat) (sf0 : List Addr) (gm_o : n0 ≤ o ∧ o ∈ sf0) (O : Old Z n0 h0) (E : Exa Z h0 o "com/example/changeline/changeline/change/TableName") (F_schema : Fld Z h0 o "com/example/changeline/changeline/change/TableName" "schema" "Ljava/lang/String;" .null) (F_name : Fld Z h0 o "com/example/changeline/changeline/change/TableName" "name" "Ljava/lang/String;" .null) (F_text : Fld Z h0 o "com/example/changeline/changeline/change/TableName" "text" "Ljava/lang/String;" .null) (F_hash : Fld Z h0 o "com/example/changeline/changeline/change/TableName" "hash" "I" (.int (0 : Int32))) (gm_s : n0 ≤ s ∧ s ∈ sf0) (gm_t : n0 ≤ t ∧ t ∈ sf0) (SS : Str Z h0 s d kd m f) (TT : Str Z h0 t e ke m' g) (hm : zm.toInt = m) (hm' : zm'.toInt = m') (YD : Exa Z h0 d "[B") (YE : Exa Z h0 e "[B") (FH : Fld Z h0 s "java/lang/String" "hash" "I" (.int (0 : Int32))) (FZ : Fld Z h0 s "java/lang/String" "hashIsZero" "Z" (.int (0 : Int32))) (GH : Fld Z h0 t "java/lang/String" "hash" "I" (.int (0 : Int32))) (GZ : Fld Z h0 t "java/lang/String" "hashIsZero" "Z" (.int (0 : Int32))) (hm12 : (m = 1 ∧ zm = 1) ∨ (m = 2 ∧ zm = 2)) (hm12' : (m' = 1 ∧ zm' = 1) ∨ (m' = 2 ∧ zm' = 2)) (ne_s_t : s ≠ t) (S_CS : Sta Z h0 "java/lang/String" "COMPACT_STRINGS" "Z" (.int cs)) (hcs : cs ≠ 0) :
    MetW Z consts_1 sf0 (⟨"com/example/changeline/changeline/change/TableName", "<init>", "(Ljava/lang/String;Ljava/lang/String;)V"⟩ : MethodName) prog_13_method_1_code 3 none [] ({ frames := 6, cells := 11, slots := 87, locals := 92 } : Room) #[(.ref o), (.ref s), (.ref t)] h0 n0 (fun v h sf => v = none ∧ Keep h0 h [o, s, t] ∧ Exa Z h o "com/example/changeline/changeline/change/TableName" ∧ Fld Z h o "com/example/changeline/changeline/change/TableName" "schema" "Ljava/lang/String;" (.ref s) ∧ Fld Z h o "com/example/changeline/changeline/change/TableName" "name" "Ljava/lang/String;" (.ref t) ∧ Str Z h s d kd m f ∧ Str Z h t e ke m' g) := by
  refine k_body (hEW hw) (f := (fun m => mkF m 0 #[.val (.ref o), .val (.ref s), .val (.ref t)] [])) pn_8 (fun m => by first | (simp [entryFrame, mkF, argsToLocals, Value.category, maxLocals]; done) | rfl) ?_
  intro Γ T G X
  have ge_o := gm_o.1
  have ge_s := gm_s.1
  have ge_t := gm_t.1
  have KP := Keep.refl h0 [o, s, t]
  have SE := SS.1
  have TE := TT.1
  have ne_d_s : d ≠ s := ne_exa YD SE (by decide)
  have ne_e_s : e ≠ s := ne_exa YE SE (by decide)
  have ne_d_t : d ≠ t := ne_exa YD TE (by decide)
  have ne_e_t : e ≠ t := ne_exa YE TE (by decide)
  have ne_s_o : s ≠ o := ne_exa SE E (by decide)
  have ne_t_o : t ≠ o := ne_exa TE E (by decide)
  have ne_d_o : d ≠ o := ne_exa YD E (by decide)
  have ne_e_o : e ≠ o := ne_exa YE E (by decide)
  have hm1 : 1 ≤ m ∧ m ≤ 2 := by omega
  have hm1' : 1 ≤ m' ∧ m' ≤ 2 := by omega
  show Go Γ n0 _ T (mkF Γ.m 0 #[.val (.ref o), .val (.ref s), .val (.ref t)] [])
  refine k_aloadN G X d8_0 (pc' := 1) rfl rfl rfl ?_
  refine k_initO G X (w40 hw) (w16 hw) (w17 hw) d8_1 (pc' := 4) rfl rfl (by decide) (wd := 0) rfl (by decide) (fun T X => ?_)
  refine k_aloadN G X d8_4 (pc' := 5) rfl rfl rfl ?_
  refine k_ldcS G X (n := 24) (w41 hw) (strAtoms hw) d8_5 (pc' := 7) rfl (by decide) (by decide) (by decide) (by decide) (fun T h5 s5 E5 X => ?_)
  replace SS := SS.ext E5
  replace TT := TT.ext E5
  replace SE := SE.ext E5
  replace TE := TE.ext E5
  replace YD := YD.ext E5
  replace YE := YE.ext E5
  replace FH := FH.ext E5
  replace FZ := FZ.ext E5
  replace GH := GH.ext E5
  replace GZ := GZ.ext E5
  replace S_CS := S_CS.ext E5
  replace KP := KP.ext E5
  replace E := E.ext E5
  replace O := O.ext E5
  replace F_schema := F_schema.ext E5
  replace F_name := F_name.ext E5
  replace F_text := F_text.ext E5
  replace F_hash := F_hash.ext E5
  refine k_callS G X (argsL := [(.ref s), (.ref s5)]) (rest := []) rfl (w44 hw) (w45 hw) (w46 hw) (w47 hw) (by decide) (rnn hw s s5 h5 n0 _) d8_7 pd24 rfl (pc' := 10) rfl rfl (wd := 0) rfl (by decide) (by decide) (by decide) (by decide) (fun T h7 v sf7 X q => ?_)
  replace X := W.drop X
  obtain ⟨rfl, e7⟩ := q
  replace X := X.eq e7
  show Go Γ n0 _ T (mkF Γ.m 10 #[.val (.ref o), .val (.ref s), .val (.ref t)] [(.ref s)])
  refine k_pop G X d8_10 (pc' := 11) rfl rfl ?_
  refine k_aloadN G X d8_11 (pc' := 12) rfl rfl rfl ?_
  refine k_ldcS G X (n := 16) (w48 hw) (strAtoms hw) d8_12 (pc' := 14) rfl (by decide) (by decide) (by decide) (by decide) (fun T h12 s12 E12 X => ?_)
  replace SS := SS.ext E12
  replace TT := TT.ext E12
  replace SE := SE.ext E12
  replace TE := TE.ext E12
  replace YD := YD.ext E12
  replace YE := YE.ext E12
  replace FH := FH.ext E12
  replace FZ := FZ.ext E12
  replace GH := GH.ext E12
  replace GZ := GZ.ext E12
  replace S_CS := S_CS.ext E12
  replace KP := KP.ext E12
  replace E := E.ext E12
  replace O := O.ext E12
  replace F_schema := F_schema.ext E12
  replace F_name := F_name.ext E12
  replace F_text := F_text.ext E12
  replace F_hash := F_hash.ext E12
  refine k_callS G X (argsL := [(.ref t), (.ref s12)]) (rest := []) rfl (w44 hw) (w45 hw) (w46 hw) (w47 hw) (by decide) (rnn hw t s12 h12 n0 _) d8_14 pd24 rfl (pc' := 17) rfl rfl (wd := 0) rfl (by decide) (by decide) (by decide) (by decide) (fun T h14 v sf14 X q => ?_)
  replace X := W.drop X
  obtain ⟨rfl, e14⟩ := q
  replace X := X.eq e14
  show Go Γ n0 _ T (mkF Γ.m 17 #[.val (.ref o), .val (.ref s), .val (.ref t)] [(.ref t)])
  refine k_pop G X d8_17 (pc' := 18) rfl rfl ?_
  refine k_aloadN G X d8_18 (pc' := 19) rfl rfl rfl ?_
  refine k_callV G X (argsL := []) (rest := []) rfl SE (w49 hw) (w50 hw) (nf_sel (w52 hw)) (w52 hw) (w51 hw) (w6 hw) (w53 hw) (by decide) (str_emp hw s d kd m f h12 n0 _ SS hm1.1) d8_19 pd16 rfl (pc' := 22) rfl rfl (wd := 0) rfl (by decide) (by decide) (by decide) (by decide) (fun T h19 v sf19 X q => ?_)
  replace X := W.drop X
  obtain ⟨rfl, e19⟩ := q
  replace X := X.eq e19
  show Go Γ n0 _ T (mkF Γ.m 22 #[.val (.ref o), .val (.ref s), .val (.ref t)] [(.int (0 : Int32))])
  refine k_if_ne G X d8_22 (pc' := 32) rfl (by decide) (pc'' := 25) rfl (fun c22 => (absurd c22 (by decide))) (fun c22 => ?_)
  refine k_aloadN G X d8_25 (pc' := 26) rfl rfl rfl ?_
  refine k_callV G X (argsL := []) (rest := []) rfl TE (w49 hw) (w50 hw) (nf_sel (w52 hw)) (w52 hw) (w51 hw) (w6 hw) (w53 hw) (by decide) (str_emp hw t e ke m' g h12 n0 _ TT hm1'.1) d8_26 pd16 rfl (pc' := 29) rfl rfl (wd := 0) rfl (by decide) (by decide) (by decide) (by decide) (fun T h26 v sf26 X q => ?_)
  replace X := W.drop X
  obtain ⟨rfl, e26⟩ := q
  replace X := X.eq e26
  show Go Γ n0 _ T (mkF Γ.m 29 #[.val (.ref o), .val (.ref s), .val (.ref t)] [(.int (0 : Int32))])
  refine k_if_eq G X d8_29 (pc' := 42) rfl (by decide) (pc'' := 32) rfl (fun c29 => ?_) (fun c29 => (absurd c29 (by decide)))
  refine k_aloadN G X d8_42 (pc' := 43) rfl rfl rfl ?_
  refine k_aloadN G X d8_43 (pc' := 44) rfl rfl rfl ?_
  refine k_putF G X (host := "") (Or.inl (w54 hw)) Via.refl F_schema E (Or.inr ⟨(w55 hw), rfl, rfl⟩) (w35 hw) (ty := (.object "java/lang/String")) (by decide) rfl rfl ge_o (List.mem_append_right [] gm_o.2) d8_44 (pc' := 47) rfl (fun T h44 W44 X => ?_)
  replace SS := SS.other W44 ne_s_o ne_d_o
  replace TT := TT.other W44 ne_t_o ne_e_o
  replace SE := SE.wr W44
  replace TE := TE.wr W44
  replace YD := YD.wr W44
  replace YE := YE.wr W44
  replace FH := FH.other W44 (Or.inl ne_s_o)
  replace FZ := FZ.other W44 (Or.inl ne_s_o)
  replace GH := GH.other W44 (Or.inl ne_t_o)
  replace GZ := GZ.other W44 (Or.inl ne_t_o)
  replace S_CS := S_CS.wr W44
  replace KP := KP.wr W44 (Or.inl (List.mem_of_getElem? (i := 0) rfl))
  replace E := E.wr W44
  replace O := O.wr W44 ge_o
  replace F_schema := F_schema.same W44
  replace F_name := F_name.other W44 (Or.inr (slot_ne (Or.inr (w57 hw)) (Or.inr (w55 hw)) (by decide) (t := (.object "java/lang/String")) (t' := (.object "java/lang/String")) (by decide) (by decide)))
  replace F_text := F_text.other W44 (Or.inr (slot_ne (Or.inr (w170 hw)) (Or.inr (w55 hw)) (by decide) (t := (.object "java/lang/String")) (t' := (.object "java/lang/String")) (by decide) (by decide)))
  replace F_hash := F_hash.other W44 (Or.inr (slot_ne (Or.inr (w200 hw)) (Or.inr (w55 hw)) (by decide) (t := .int) (t' := (.object "java/lang/String")) (by decide) (by decide)))
  refine k_aloadN G X d8_47 (pc' := 48) rfl rfl rfl ?_
  refine k_aloadN G X d8_48 (pc' := 49) rfl rfl rfl ?_
  refine k_putF G X (host := "") (Or.inl (w56 hw)) Via.refl F_name E (Or.inr ⟨(w57 hw), rfl, rfl⟩) (w35 hw) (ty := (.object "java/lang/String")) (by decide) rfl rfl ge_o (List.mem_append_right [] gm_o.2) d8_49 (pc' := 52) rfl (fun T h49 W49 X => ?_)
  replace SS := SS.other W49 ne_s_o ne_d_o
  replace TT := TT.other W49 ne_t_o ne_e_o
  replace SE := SE.wr W49
  replace TE := TE.wr W49
  replace YD := YD.wr W49
  replace YE := YE.wr W49
  replace FH := FH.other W49 (Or.inl ne_s_o)
  replace FZ := FZ.other W49 (Or.inl ne_s_o)
  replace GH := GH.other W49 (Or.inl ne_t_o)
  replace GZ := GZ.other W49 (Or.inl ne_t_o)
  replace S_CS := S_CS.wr W49
  replace KP := KP.wr W49 (Or.inl (List.mem_of_getElem? (i := 0) rfl))
  replace E := E.wr W49
  replace O := O.wr W49 ge_o
  replace F_schema := F_schema.other W49 (Or.inr (slot_ne (Or.inr (w55 hw)) (Or.inr (w57 hw)) (by decide) (t := (.object "java/lang/String")) (t' := (.object "java/lang/String")) (by decide) (by decide)))
  replace F_name := F_name.same W49
  replace F_text := F_text.other W49 (Or.inr (slot_ne (Or.inr (w170 hw)) (Or.inr (w57 hw)) (by decide) (t := (.object "java/lang/String")) (t' := (.object "java/lang/String")) (by decide) (by decide)))
  replace F_hash := F_hash.other W49 (Or.inr (slot_ne (Or.inr (w200 hw)) (Or.inr (w57 hw)) (by decide) (t := .int) (t' := (.object "java/lang/String")) (by decide) (by decide)))
  refine k_aloadN G X d8_52 (pc' := 53) rfl rfl rfl ?_
  refine k_new G X (w58 hw) (w59 hw) (w60 hw) d8_53 (pc' := 56) rfl (by decide) (by decide) (fun T h53 b53 s_b53 E53 X_b53 D53 X => ?_)
  have ne_s_b53 : s ≠ b53 := Nat.ne_of_lt (Nat.lt_of_lt_of_eq SE.lt s_b53)
  have ne_t_b53 : t ≠ b53 := Nat.ne_of_lt (Nat.lt_of_lt_of_eq TE.lt s_b53)
  have ne_d_b53 : d ≠ b53 := Nat.ne_of_lt (Nat.lt_of_lt_of_eq YD.lt s_b53)
  have ne_e_b53 : e ≠ b53 := Nat.ne_of_lt (Nat.lt_of_lt_of_eq YE.lt s_b53)
  have ne_o_b53 : o ≠ b53 := Nat.ne_of_lt (Nat.lt_of_lt_of_eq E.lt s_b53)
  have ge_b53 : n0 ≤ b53 := Nat.le_trans (Jvm.OwnK.Old_le O) (Nat.le_of_eq s_b53)
  have sz_b53 : h0.size ≤ b53 := Nat.le_trans KP.1 (Nat.le_of_eq s_b53)
  replace SS := SS.ext E53
  replace TT := TT.ext E53
  replace SE := SE.ext E53
  replace TE := TE.ext E53
  replace YD := YD.ext E53
  replace YE := YE.ext E53
  replace FH := FH.ext E53
  replace FZ := FZ.ext E53
  replace GH := GH.ext E53
  replace GZ := GZ.ext E53
  replace S_CS := S_CS.ext E53
  replace KP := KP.ext E53
  replace E := E.ext E53
  replace O := O.ext E53
  replace F_schema := F_schema.ext E53
  replace F_name := F_name.ext E53
  replace F_text := F_text.ext E53
  replace F_hash := F_hash.ext E53
  have F_b53_value : Fld Z h53 b53 "java/lang/AbstractStringBuilder" "value" "[B" .null := D53 (Or.inl (w73 hw)) (ty := (.array .byte)) (by decide)
  have F_b53_coder : Fld Z h53 b53 "java/lang/AbstractStringBuilder" "coder" "B" (.int (0 : Int32)) := D53 (Or.inl (w75 hw)) (ty := .byte) (by decide)
  have F_b53_count : Fld Z h53 b53 "java/lang/AbstractStringBuilder" "count" "I" (.int (0 : Int32)) := D53 (Or.inl (w97 hw)) (ty := .int) (by decide)
  refine k_dup G X d8_56 (pc' := 57) rfl rfl ?_
  refine k_callI G X (argsL := []) (rest := [(.ref b53), (.ref o)]) rfl rfl (w61 hw) (w62 hw) (w60 hw) (w63 hw) (by decide) (sb_i1 hw b53 cs h53 n0 _ ⟨ge_b53, (List.mem_of_getElem? (i := 0) rfl)⟩ O X_b53 F_b53_value F_b53_coder F_b53_count S_CS hcs) d8_57 pd25 rfl (pc' := 60) rfl rfl (wd := 2) rfl (by decide) (by decide) (by decide) (by decide) (fun T h57 v sf57 X q => ?_)
  obtain ⟨rfl, K57, E', b, k, sz_b', FV', FC', FN', B', hmb⟩ := q
  replace X := W.only X hmb
  have sz_b := Nat.le_trans KP.1 sz_b'
  have ne_s_b : s ≠ b := Nat.ne_of_lt (Nat.lt_of_lt_of_le SS.lt sz_b')
  have ne_d_b : d ≠ b := Nat.ne_of_lt (Nat.lt_of_lt_of_le SS.lt' sz_b')
  have ne_t_b : t ≠ b := Nat.ne_of_lt (Nat.lt_of_lt_of_le TT.lt sz_b')
  have ne_e_b : e ≠ b := Nat.ne_of_lt (Nat.lt_of_lt_of_le TT.lt' sz_b')
  have ne_o_b : o ≠ b := Nat.ne_of_lt (Nat.lt_of_lt_of_le E.lt sz_b')
  have ne_b53_b : b53 ≠ b := Nat.ne_of_lt (Nat.lt_of_lt_of_le X_b53.lt sz_b')
  have ge_b : n0 ≤ b := Nat.le_trans (Old_le O) sz_b'
  replace S_CS := Sta_keepL S_CS K57 (allS (Pln_exa X_b53) (all0))
  replace SS := SS.keep K57 (by simp only [List.mem_cons, List.not_mem_nil, or_false, not_or]; exact ne_s_b53) (by simp only [List.mem_cons, List.not_mem_nil, or_false, not_or]; exact ne_d_b53)
  replace TT := TT.keep K57 (by simp only [List.mem_cons, List.not_mem_nil, or_false, not_or]; exact ne_t_b53) (by simp only [List.mem_cons, List.not_mem_nil, or_false, not_or]; exact ne_e_b53)
  replace SE := SE.keep K57
  replace TE := TE.keep K57
  replace YD := YD.keep K57
  replace YE := YE.keep K57
  replace FH := FH.keep K57 (by simp only [List.mem_cons, List.not_mem_nil, or_false, not_or]; exact ne_s_b53)
  replace FZ := FZ.keep K57 (by simp only [List.mem_cons, List.not_mem_nil, or_false, not_or]; exact ne_s_b53)
  replace GH := GH.keep K57 (by simp only [List.mem_cons, List.not_mem_nil, or_false, not_or]; exact ne_t_b53)
  replace GZ := GZ.keep K57 (by simp only [List.mem_cons, List.not_mem_nil, or_false, not_or]; exact ne_t_b53)
  replace KP := KP.trans K57 (allS (Or.inr sz_b53) (all0))
  replace E := E.keep K57
  replace O := O.keep K57 (allS ge_b53 (all0))
  replace F_schema := F_schema.keep K57 (by simp only [List.mem_cons, List.not_mem_nil, or_false, not_or]; exact ne_o_b53)
  replace F_name := F_name.keep K57 (by simp only [List.mem_cons, List.not_mem_nil, or_false, not_or]; exact ne_o_b53)
  replace F_text := F_text.keep K57 (by simp only [List.mem_cons, List.not_mem_nil, or_false, not_or]; exact ne_o_b53)
  replace F_hash := F_hash.keep K57 (by simp only [List.mem_cons, List.not_mem_nil, or_false, not_or]; exact ne_o_b53)
  replace X_b53 := X_b53.keep K57
  have FV := FV'; have FC := FC'; have FN := FN'; have B := B'
  show Go Γ n0 _ T (mkF Γ.m 60 #[.val (.ref o), .val (.ref s), .val (.ref t)] [(.ref b53), (.ref o)])
  refine k_aloadN G X d8_60 (pc' := 61) rfl rfl rfl ?_
  refine k_callV G X (argsL := [(.ref s)]) (rest := [(.ref o)]) rfl X_b53 (w76 hw) (w77 hw) (nf_sel (w79 hw)) (w79 hw) (w78 hw) (w60 hw) (w80 hw) (by decide) (sb_app hw b53 s d b kd k m 0 zm (0 : Int32) cs f (fun _ => .int 0) h57 n0 _ SS hm S_CS hcs B ⟨ge_b, (List.mem_of_getElem? (i := 0) rfl)⟩ rfl (by omega) ne_d_b ne_s_b ⟨ge_b53, (List.mem_of_getElem? (i := 1) rfl)⟩ X_b53 FV FC (Ne.symm ne_b53_b) ne_s_b53 ne_d_b53 FN) d8_61 pd26 rfl (pc' := 64) rfl rfl (wd := 1) rfl (by decide) (by decide) (by decide) (by decide) (fun T h61 v sf61 X q => ?_)
  replace X := W.drop X
  obtain ⟨rfl, K61, E', FV', FC', FN', B'⟩ := q
  replace S_CS := Sta_keepL S_CS K61 (allS (Pln_exa X_b53) (allS (Pln_arf B) (all0)))
  replace SS := SS.keep K61 (by simp only [List.mem_cons, List.not_mem_nil, or_false, not_or]; exact ⟨ne_s_b53, ne_s_b⟩) (by simp only [List.mem_cons, List.not_mem_nil, or_false, not_or]; exact ⟨ne_d_b53, ne_d_b⟩)
  replace TT := TT.keep K61 (by simp only [List.mem_cons, List.not_mem_nil, or_false, not_or]; exact ⟨ne_t_b53, ne_t_b⟩) (by simp only [List.mem_cons, List.not_mem_nil, or_false, not_or]; exact ⟨ne_e_b53, ne_e_b⟩)
  replace SE := SE.keep K61
  replace TE := TE.keep K61
  replace YD := YD.keep K61
  replace YE := YE.keep K61
  replace FH := FH.keep K61 (by simp only [List.mem_cons, List.not_mem_nil, or_false, not_or]; exact ⟨ne_s_b53, ne_s_b⟩)
  replace FZ := FZ.keep K61 (by simp only [List.mem_cons, List.not_mem_nil, or_false, not_or]; exact ⟨ne_s_b53, ne_s_b⟩)
  replace GH := GH.keep K61 (by simp only [List.mem_cons, List.not_mem_nil, or_false, not_or]; exact ⟨ne_t_b53, ne_t_b⟩)
  replace GZ := GZ.keep K61 (by simp only [List.mem_cons, List.not_mem_nil, or_false, not_or]; exact ⟨ne_t_b53, ne_t_b⟩)
  replace KP := KP.trans K61 (allS (Or.inr sz_b53) (allS (Or.inr sz_b) (all0)))
  replace E := E.keep K61
  replace O := O.keep K61 (allS ge_b53 (allS ge_b (all0)))
  replace F_schema := F_schema.keep K61 (by simp only [List.mem_cons, List.not_mem_nil, or_false, not_or]; exact ⟨ne_o_b53, ne_o_b⟩)
  replace F_name := F_name.keep K61 (by simp only [List.mem_cons, List.not_mem_nil, or_false, not_or]; exact ⟨ne_o_b53, ne_o_b⟩)
  replace F_text := F_text.keep K61 (by simp only [List.mem_cons, List.not_mem_nil, or_false, not_or]; exact ⟨ne_o_b53, ne_o_b⟩)
  replace F_hash := F_hash.keep K61 (by simp only [List.mem_cons, List.not_mem_nil, or_false, not_or]; exact ⟨ne_o_b53, ne_o_b⟩)
  replace X_b53 := X_b53.keep K61
  have FV := FV'; have FC := FC'; have B := B'
  obtain ⟨z1, q_z1⟩ : ∃ z, (0 : Int32) + zm = z := ⟨_, rfl⟩
  rw [q_z1] at FN'
  have FN := FN'
  have hz1 : z1.toInt = (0 + m : Nat) := by rw [← q_z1, iadd_toInt (by rw [show ((0 : Int32)).toInt = ((0 : Nat) : Int) from rfl, show (zm : Int32).toInt = ((m : Nat) : Int) from hm]; omega) (by rw [show ((0 : Int32)).toInt = ((0 : Nat) : Int) from rfl, show (zm : Int32).toInt = ((m : Nat) : Int) from hm]; omega), show ((0 : Int32)).toInt = ((0 : Nat) : Int) from rfl, show (zm : Int32).toInt = ((m : Nat) : Int) from hm]; omega
  obtain ⟨g61, hg61⟩ : ∃ gv : Nat → Value, gv = (fun i => if 0 ≤ i ∧ i < 0 + m then (fun i => .int (f i)) (0 + (i - 0)) else (fun _ => .int 0) i) := ⟨_, rfl⟩
  rw [← hg61] at B
  show Go Γ n0 _ T (mkF Γ.m 64 #[.val (.ref o), .val (.ref s), .val (.ref t)] [(.ref b53), (.ref o)])
  refine k_ldcH G X (n := 4) (vs := ([46] : List Int32)) (z := 1) (w123 hw) (strAtoms hw) (by decide) ⟨by decide, by decide⟩ (by decide) d8_64 (pc' := 66) rfl (by decide) (by decide) (by decide) (by decide) (fun T h64 sD sDd k64 E64 Xs Fc Fv Fa hne64 X => ?_)
  replace SS := SS.ext E64
  replace TT := TT.ext E64
  replace SE := SE.ext E64
  replace TE := TE.ext E64
  replace YD := YD.ext E64
  replace YE := YE.ext E64
  replace FH := FH.ext E64
  replace FZ := FZ.ext E64
  replace GH := GH.ext E64
  replace GZ := GZ.ext E64
  replace S_CS := S_CS.ext E64
  replace KP := KP.ext E64
  replace E := E.ext E64
  replace O := O.ext E64
  replace F_schema := F_schema.ext E64
  replace F_name := F_name.ext E64
  replace F_text := F_text.ext E64
  replace F_hash := F_hash.ext E64
  replace X_b53 := X_b53.ext E64
  replace FV := FV.ext E64
  replace FC := FC.ext E64
  replace FN := FN.ext E64
  replace B := B.ext E64
  have SDOT : Str Z h64 sD sDd k64 1 (fun i => ([46] : List Int32).getD i 0) := ⟨Xs, Fc, Fv, Fa⟩
  have X_sD := Xs
  have ne_b_sD := (hne64 b (List.mem_of_getElem? (i := 0) rfl)).1
  have ne_b_sDd := (hne64 b (List.mem_of_getElem? (i := 0) rfl)).2
  have ne_b53_sD := (hne64 b53 (List.mem_of_getElem? (i := 1) rfl)).1
  have ne_b53_sDd := (hne64 b53 (List.mem_of_getElem? (i := 1) rfl)).2
  have ne_o_sD := (hne64 o (List.mem_append_right [b, b53] gm_o.2)).1
  have ne_o_sDd := (hne64 o (List.mem_append_right [b, b53] gm_o.2)).2
  have ne_s_sD := (hne64 s (List.mem_append_right [b, b53] gm_s.2)).1
  have ne_s_sDd := (hne64 s (List.mem_append_right [b, b53] gm_s.2)).2
  have ne_t_sD := (hne64 t (List.mem_append_right [b, b53] gm_t.2)).1
  have ne_t_sDd := (hne64 t (List.mem_append_right [b, b53] gm_t.2)).2
  refine k_callV G X (argsL := [(.ref sD)]) (rest := [(.ref o)]) rfl X_b53 (w76 hw) (w77 hw) (nf_sel (w79 hw)) (w79 hw) (w78 hw) (w60 hw) (w80 hw) (by decide) (sb_app hw b53 sD sDd b k64 k 1 (0 + m) (1 : Int32) z1 cs (fun i => ([46] : List Int32).getD i 0) g61 h64 n0 _ SDOT rfl S_CS hcs B ⟨ge_b, (List.mem_of_getElem? (i := 0) rfl)⟩ hz1 (by omega) (Ne.symm ne_b_sDd) (Ne.symm ne_b_sD) ⟨ge_b53, (List.mem_of_getElem? (i := 1) rfl)⟩ X_b53 FV FC (Ne.symm ne_b53_b) (Ne.symm ne_b53_sD) (Ne.symm ne_b53_sDd) FN) d8_66 pd26 rfl (pc' := 69) rfl rfl (wd := 1) rfl (by decide) (by decide) (by decide) (by decide) (fun T h66 v sf66 X q => ?_)
  replace X := W.drop X
  obtain ⟨rfl, K66, E', FV', FC', FN', B'⟩ := q
  replace S_CS := Sta_keepL S_CS K66 (allS (Pln_exa X_b53) (allS (Pln_arf B) (all0)))
  replace SS := SS.keep K66 (by simp only [List.mem_cons, List.not_mem_nil, or_false, not_or]; exact ⟨ne_s_b53, ne_s_b⟩) (by simp only [List.mem_cons, List.not_mem_nil, or_false, not_or]; exact ⟨ne_d_b53, ne_d_b⟩)
  replace TT := TT.keep K66 (by simp only [List.mem_cons, List.not_mem_nil, or_false, not_or]; exact ⟨ne_t_b53, ne_t_b⟩) (by simp only [List.mem_cons, List.not_mem_nil, or_false, not_or]; exact ⟨ne_e_b53, ne_e_b⟩)
  replace SE := SE.keep K66
  replace TE := TE.keep K66
  replace YD := YD.keep K66
  replace YE := YE.keep K66
  replace FH := FH.keep K66 (by simp only [List.mem_cons, List.not_mem_nil, or_false, not_or]; exact ⟨ne_s_b53, ne_s_b⟩)
  replace FZ := FZ.keep K66 (by simp only [List.mem_cons, List.not_mem_nil, or_false, not_or]; exact ⟨ne_s_b53, ne_s_b⟩)
  replace GH := GH.keep K66 (by simp only [List.mem_cons, List.not_mem_nil, or_false, not_or]; exact ⟨ne_t_b53, ne_t_b⟩)
  replace GZ := GZ.keep K66 (by simp only [List.mem_cons, List.not_mem_nil, or_false, not_or]; exact ⟨ne_t_b53, ne_t_b⟩)
  replace KP := KP.trans K66 (allS (Or.inr sz_b53) (allS (Or.inr sz_b) (all0)))
  replace E := E.keep K66
  replace O := O.keep K66 (allS ge_b53 (allS ge_b (all0)))
  replace F_schema := F_schema.keep K66 (by simp only [List.mem_cons, List.not_mem_nil, or_false, not_or]; exact ⟨ne_o_b53, ne_o_b⟩)
  replace F_name := F_name.keep K66 (by simp only [List.mem_cons, List.not_mem_nil, or_false, not_or]; exact ⟨ne_o_b53, ne_o_b⟩)
  replace F_text := F_text.keep K66 (by simp only [List.mem_cons, List.not_mem_nil, or_false, not_or]; exact ⟨ne_o_b53, ne_o_b⟩)
  replace F_hash := F_hash.keep K66 (by simp only [List.mem_cons, List.not_mem_nil, or_false, not_or]; exact ⟨ne_o_b53, ne_o_b⟩)
  replace X_b53 := X_b53.keep K66
  replace X_sD := X_sD.keep K66
  replace SDOT := SDOT.keep K66 (by simp only [List.mem_cons, List.not_mem_nil, or_false, not_or]; exact ⟨(Ne.symm ne_b53_sD), (Ne.symm ne_b_sD)⟩) (by simp only [List.mem_cons, List.not_mem_nil, or_false, not_or]; exact ⟨(Ne.symm ne_b53_sDd), (Ne.symm ne_b_sDd)⟩)
  have FV := FV'; have FC := FC'; have B := B'
  obtain ⟨z2, q_z2⟩ : ∃ z, z1 + (1 : Int32) = z := ⟨_, rfl⟩
  rw [q_z2] at FN'
  have FN := FN'
  have hz2 : z2.toInt = ((0 + m) + 1 : Nat) := by rw [← q_z2, iadd_toInt (by rw [show (z1).toInt = (((0 + m) : Nat) : Int) from hz1, show ((1 : Int32) : Int32).toInt = ((1 : Nat) : Int) from rfl]; omega) (by rw [show (z1).toInt = (((0 + m) : Nat) : Int) from hz1, show ((1 : Int32) : Int32).toInt = ((1 : Nat) : Int) from rfl]; omega), show (z1).toInt = (((0 + m) : Nat) : Int) from hz1, show ((1 : Int32) : Int32).toInt = ((1 : Nat) : Int) from rfl]; omega
  obtain ⟨g66, hg66⟩ : ∃ gv : Nat → Value, gv = (fun i => if (0 + m) ≤ i ∧ i < (0 + m) + 1 then (fun i => .int ((fun i => ([46] : List Int32).getD i 0) i)) (0 + (i - (0 + m))) else g61 i) := ⟨_, rfl⟩
  rw [← hg66] at B
  show Go Γ n0 _ T (mkF Γ.m 69 #[.val (.ref o), .val (.ref s), .val (.ref t)] [(.ref b53), (.ref o)])
  refine k_aloadN G X d8_69 (pc' := 70) rfl rfl rfl ?_
  refine k_callV G X (argsL := [(.ref t)]) (rest := [(.ref o)]) rfl X_b53 (w76 hw) (w77 hw) (nf_sel (w79 hw)) (w79 hw) (w78 hw) (w60 hw) (w80 hw) (by decide) (sb_app hw b53 t e b ke k m' (0 + m + 1) zm' z2 cs g g66 h66 n0 _ TT hm' S_CS hcs B ⟨ge_b, (List.mem_of_getElem? (i := 0) rfl)⟩ hz2 (by omega) ne_e_b ne_t_b ⟨ge_b53, (List.mem_of_getElem? (i := 1) rfl)⟩ X_b53 FV FC (Ne.symm ne_b53_b) ne_t_b53 ne_e_b53 FN) d8_70 pd26 rfl (pc' := 73) rfl rfl (wd := 1) rfl (by decide) (by decide) (by decide) (by decide) (fun T h70 v sf70 X q => ?_)
  replace X := W.drop X
  obtain ⟨rfl, K70, E', FV', FC', FN', B'⟩ := q
  replace S_CS := Sta_keepL S_CS K70 (allS (Pln_exa X_b53) (allS (Pln_arf B) (all0)))
  replace SS := SS.keep K70 (by simp only [List.mem_cons, List.not_mem_nil, or_false, not_or]; exact ⟨ne_s_b53, ne_s_b⟩) (by simp only [List.mem_cons, List.not_mem_nil, or_false, not_or]; exact ⟨ne_d_b53, ne_d_b⟩)
  replace TT := TT.keep K70 (by simp only [List.mem_cons, List.not_mem_nil, or_false, not_or]; exact ⟨ne_t_b53, ne_t_b⟩) (by simp only [List.mem_cons, List.not_mem_nil, or_false, not_or]; exact ⟨ne_e_b53, ne_e_b⟩)
  replace SE := SE.keep K70
  replace TE := TE.keep K70
  replace YD := YD.keep K70
  replace YE := YE.keep K70
  replace FH := FH.keep K70 (by simp only [List.mem_cons, List.not_mem_nil, or_false, not_or]; exact ⟨ne_s_b53, ne_s_b⟩)
  replace FZ := FZ.keep K70 (by simp only [List.mem_cons, List.not_mem_nil, or_false, not_or]; exact ⟨ne_s_b53, ne_s_b⟩)
  replace GH := GH.keep K70 (by simp only [List.mem_cons, List.not_mem_nil, or_false, not_or]; exact ⟨ne_t_b53, ne_t_b⟩)
  replace GZ := GZ.keep K70 (by simp only [List.mem_cons, List.not_mem_nil, or_false, not_or]; exact ⟨ne_t_b53, ne_t_b⟩)
  replace KP := KP.trans K70 (allS (Or.inr sz_b53) (allS (Or.inr sz_b) (all0)))
  replace E := E.keep K70
  replace O := O.keep K70 (allS ge_b53 (allS ge_b (all0)))
  replace F_schema := F_schema.keep K70 (by simp only [List.mem_cons, List.not_mem_nil, or_false, not_or]; exact ⟨ne_o_b53, ne_o_b⟩)
  replace F_name := F_name.keep K70 (by simp only [List.mem_cons, List.not_mem_nil, or_false, not_or]; exact ⟨ne_o_b53, ne_o_b⟩)
  replace F_text := F_text.keep K70 (by simp only [List.mem_cons, List.not_mem_nil, or_false, not_or]; exact ⟨ne_o_b53, ne_o_b⟩)
  replace F_hash := F_hash.keep K70 (by simp only [List.mem_cons, List.not_mem_nil, or_false, not_or]; exact ⟨ne_o_b53, ne_o_b⟩)
  replace X_b53 := X_b53.keep K70
  replace X_sD := X_sD.keep K70
  replace SDOT := SDOT.keep K70 (by simp only [List.mem_cons, List.not_mem_nil, or_false, not_or]; exact ⟨(Ne.symm ne_b53_sD), (Ne.symm ne_b_sD)⟩) (by simp only [List.mem_cons, List.not_mem_nil, or_false, not_or]; exact ⟨(Ne.symm ne_b53_sDd), (Ne.symm ne_b_sDd)⟩)
  have FV := FV'; have FC := FC'; have B := B'
  obtain ⟨z3, q_z3⟩ : ∃ z, z2 + zm' = z := ⟨_, rfl⟩
  rw [q_z3] at FN'
  have FN := FN'
  have hz3 : z3.toInt = ((0 + m + 1) + m' : Nat) := by rw [← q_z3, iadd_toInt (by rw [show (z2).toInt = (((0 + m + 1) : Nat) : Int) from hz2, show (zm' : Int32).toInt = ((m' : Nat) : Int) from hm']; omega) (by rw [show (z2).toInt = (((0 + m + 1) : Nat) : Int) from hz2, show (zm' : Int32).toInt = ((m' : Nat) : Int) from hm']; omega), show (z2).toInt = (((0 + m + 1) : Nat) : Int) from hz2, show (zm' : Int32).toInt = ((m' : Nat) : Int) from hm']; omega
  obtain ⟨g70, hg70⟩ : ∃ gv : Nat → Value, gv = (fun i => if (0 + m + 1) ≤ i ∧ i < (0 + m + 1) + m' then (fun i => .int (g i)) (0 + (i - (0 + m + 1))) else g66 i) := ⟨_, rfl⟩
  rw [← hg70] at B
  show Go Γ n0 _ T (mkF Γ.m 73 #[.val (.ref o), .val (.ref s), .val (.ref t)] [(.ref b53), (.ref o)])
  refine k_callV G X (argsL := []) (rest := [(.ref o)]) rfl X_b53 (w124 hw) (w125 hw) (nf_sel (w127 hw)) (w127 hw) (w126 hw) (w60 hw) (w128 hw) (by decide) (sb_str hw b53 b k 16 (0 + m + 1 + m') (16 : Int32) z3 cs g70 h70 n0 _ O X_b53 FV FC FN B rfl hz3 (by omega) (by omega) (by omega) S_CS hcs) d8_73 pd27 rfl (pc' := 76) rfl rfl (wd := 1) rfl (by decide) (by decide) (by decide) (by decide) (fun T h73 v sf73 X q => ?_)
  replace X := W.drop X
  obtain ⟨u, r, kr, rfl, sz_u', sz_r, K73, -, -, -, -⟩ := q
  have sz_u := Nat.le_trans KP.1 sz_u'
  have ne_s_u : s ≠ u := Nat.ne_of_lt (Nat.lt_of_lt_of_le SS.lt sz_u')
  have ne_d_u : d ≠ u := Nat.ne_of_lt (Nat.lt_of_lt_of_le SS.lt' sz_u')
  have ne_t_u : t ≠ u := Nat.ne_of_lt (Nat.lt_of_lt_of_le TT.lt sz_u')
  have ne_e_u : e ≠ u := Nat.ne_of_lt (Nat.lt_of_lt_of_le TT.lt' sz_u')
  have ne_o_u : o ≠ u := Nat.ne_of_lt (Nat.lt_of_lt_of_le E.lt sz_u')
  have ne_b53_u : b53 ≠ u := Nat.ne_of_lt (Nat.lt_of_lt_of_le X_b53.lt sz_u')
  have ne_sD_u : sD ≠ u := Nat.ne_of_lt (Nat.lt_of_lt_of_le X_sD.lt sz_u')
  have ne_sDd_u : sDd ≠ u := Nat.ne_of_lt (Nat.lt_of_lt_of_le SDOT.lt' sz_u')
  have ne_b_u : b ≠ u := Nat.ne_of_lt (Nat.lt_of_lt_of_le B.lt sz_u')
  replace S_CS := Jvm.OwnK.Sta_keep S_CS K73
  replace SS := SS.keep K73 nin0 nin0
  replace TT := TT.keep K73 nin0 nin0
  replace SE := SE.keep K73
  replace TE := TE.keep K73
  replace YD := YD.keep K73
  replace YE := YE.keep K73
  replace FH := FH.keep K73 nin0
  replace FZ := FZ.keep K73 nin0
  replace GH := GH.keep K73 nin0
  replace GZ := GZ.keep K73 nin0
  replace KP := KP.trans K73 (all0)
  replace E := E.keep K73
  replace O := O.keep K73 (all0)
  replace F_schema := F_schema.keep K73 nin0
  replace F_name := F_name.keep K73 nin0
  replace F_text := F_text.keep K73 nin0
  replace F_hash := F_hash.keep K73 nin0
  replace X_b53 := X_b53.keep K73
  replace X_sD := X_sD.keep K73
  replace SDOT := SDOT.keep K73 nin0 nin0
  show Go Γ n0 _ T (mkF Γ.m 76 #[.val (.ref o), .val (.ref s), .val (.ref t)] [(.ref u), (.ref o)])
  refine k_putF G X (host := "") (Or.inl (w169 hw)) Via.refl F_text E (Or.inr ⟨(w170 hw), rfl, rfl⟩) (w35 hw) (ty := (.object "java/lang/String")) (by decide) rfl rfl ge_o (List.mem_append_right [b, b53] gm_o.2) d8_76 (pc' := 79) rfl (fun T h76 W76 X => ?_)
  replace SS := SS.other W76 ne_s_o ne_d_o
  replace TT := TT.other W76 ne_t_o ne_e_o
  replace SE := SE.wr W76
  replace TE := TE.wr W76
  replace YD := YD.wr W76
  replace YE := YE.wr W76
  replace FH := FH.other W76 (Or.inl ne_s_o)
  replace FZ := FZ.other W76 (Or.inl ne_s_o)
  replace GH := GH.other W76 (Or.inl ne_t_o)
  replace GZ := GZ.other W76 (Or.inl ne_t_o)
  replace S_CS := S_CS.wr W76
  replace KP := KP.wr W76 (Or.inl (List.mem_of_getElem? (i := 0) rfl))
  replace E := E.wr W76
  replace O := O.wr W76 ge_o
  replace F_schema := F_schema.other W76 (Or.inr (slot_ne (Or.inr (w55 hw)) (Or.inr (w170 hw)) (by decide) (t := (.object "java/lang/String")) (t' := (.object "java/lang/String")) (by decide) (by decide)))
  replace F_name := F_name.other W76 (Or.inr (slot_ne (Or.inr (w57 hw)) (Or.inr (w170 hw)) (by decide) (t := (.object "java/lang/String")) (t' := (.object "java/lang/String")) (by decide) (by decide)))
  replace F_text := F_text.same W76
  replace F_hash := F_hash.other W76 (Or.inr (slot_ne (Or.inr (w200 hw)) (Or.inr (w170 hw)) (by decide) (t := .int) (t' := (.object "java/lang/String")) (by decide) (by decide)))
  replace X_b53 := X_b53.wr W76
  replace X_sD := X_sD.wr W76
  replace SDOT := SDOT.other W76 (Ne.symm ne_o_sD) (Ne.symm ne_o_sDd)
  refine k_aloadN G X d8_79 (pc' := 80) rfl rfl rfl ?_
  refine k_iconst G X d8_80 (pc' := 81) rfl (z := (2 : Int32)) (by decide) ?_
  refine k_newR G X (n := 2) (cap := 2) (w171 hw) (w172 hw) d8_81 (pc' := 84) rfl rfl (by decide) (by decide) (by decide) (by decide) (fun T h81 b81 k81 s_b81 E81 A_b81 O_b81 X => ?_)
  have ne_s_b81 : s ≠ b81 := Nat.ne_of_lt (Nat.lt_of_lt_of_eq SE.lt s_b81)
  have ne_t_b81 : t ≠ b81 := Nat.ne_of_lt (Nat.lt_of_lt_of_eq TE.lt s_b81)
  have ne_d_b81 : d ≠ b81 := Nat.ne_of_lt (Nat.lt_of_lt_of_eq YD.lt s_b81)
  have ne_e_b81 : e ≠ b81 := Nat.ne_of_lt (Nat.lt_of_lt_of_eq YE.lt s_b81)
  have ne_o_b81 : o ≠ b81 := Nat.ne_of_lt (Nat.lt_of_lt_of_eq E.lt s_b81)
  have ge_b81 : n0 ≤ b81 := Nat.le_trans (Jvm.OwnK.Old_le O) (Nat.le_of_eq s_b81)
  have sz_b81 : h0.size ≤ b81 := Nat.le_trans KP.1 (Nat.le_of_eq s_b81)
  replace SS := SS.ext E81
  replace TT := TT.ext E81
  replace SE := SE.ext E81
  replace TE := TE.ext E81
  replace YD := YD.ext E81
  replace YE := YE.ext E81
  replace FH := FH.ext E81
  replace FZ := FZ.ext E81
  replace GH := GH.ext E81
  replace GZ := GZ.ext E81
  replace S_CS := S_CS.ext E81
  replace KP := KP.ext E81
  replace E := E.ext E81
  replace O := O.ext E81
  replace F_schema := F_schema.ext E81
  replace F_name := F_name.ext E81
  replace F_text := F_text.ext E81
  replace F_hash := F_hash.ext E81
  replace A_b81 : Arf Z h81 b81 k81 (.object "java/lang/Object") 2 (fun _ => .null) := A_b81
  refine k_dup G X d8_84 (pc' := 85) rfl rfl ?_
  refine k_iconst G X d8_85 (pc' := 86) rfl (z := (0 : Int32)) (by decide) ?_
  refine k_aloadN G X d8_86 (pc' := 87) rfl rfl rfl ?_
  refine k_aastore G X (i := 0) A_b81 rfl rfl (by decide) (A_b81.sto O_b81 (Ins.of_exa SE (w173 hw))) rfl ge_b81 (List.mem_of_getElem? (i := 0) rfl) d8_87 (pc' := 88) rfl (fun T h87 W87 A_b81 X => ?_)
  replace SS := SS.other W87 ne_s_b81 ne_d_b81
  replace TT := TT.other W87 ne_t_b81 ne_e_b81
  replace SE := SE.wr W87
  replace TE := TE.wr W87
  replace YD := YD.wr W87
  replace YE := YE.wr W87
  replace FH := FH.other W87 (Or.inl ne_s_b81)
  replace FZ := FZ.other W87 (Or.inl ne_s_b81)
  replace GH := GH.other W87 (Or.inl ne_t_b81)
  replace GZ := GZ.other W87 (Or.inl ne_t_b81)
  replace S_CS := S_CS.wr W87
  replace KP := KP.wr W87 (Or.inr sz_b81)
  replace E := E.wr W87
  replace O := O.wr W87 ge_b81
  replace F_schema := F_schema.other W87 (Or.inl ne_o_b81)
  replace F_name := F_name.other W87 (Or.inl ne_o_b81)
  replace F_text := F_text.other W87 (Or.inl ne_o_b81)
  replace F_hash := F_hash.other W87 (Or.inl ne_o_b81)
  refine k_dup G X d8_88 (pc' := 89) rfl rfl ?_
  refine k_iconst G X d8_89 (pc' := 90) rfl (z := (1 : Int32)) (by decide) ?_
  refine k_aloadN G X d8_90 (pc' := 91) rfl rfl rfl ?_
  refine k_aastore G X (i := 1) A_b81 rfl rfl (by decide) (A_b81.sto O_b81 (Ins.of_exa TE (w173 hw))) rfl ge_b81 (List.mem_of_getElem? (i := 0) rfl) d8_91 (pc' := 92) rfl (fun T h91 W91 A_b81 X => ?_)
  replace SS := SS.other W91 ne_s_b81 ne_d_b81
  replace TT := TT.other W91 ne_t_b81 ne_e_b81
  replace SE := SE.wr W91
  replace TE := TE.wr W91
  replace YD := YD.wr W91
  replace YE := YE.wr W91
  replace FH := FH.other W91 (Or.inl ne_s_b81)
  replace FZ := FZ.other W91 (Or.inl ne_s_b81)
  replace GH := GH.other W91 (Or.inl ne_t_b81)
  replace GZ := GZ.other W91 (Or.inl ne_t_b81)
  replace S_CS := S_CS.wr W91
  replace KP := KP.wr W91 (Or.inr sz_b81)
  replace E := E.wr W91
  replace O := O.wr W91 ge_b81
  replace F_schema := F_schema.other W91 (Or.inl ne_o_b81)
  replace F_name := F_name.other W91 (Or.inl ne_o_b81)
  replace F_text := F_text.other W91 (Or.inl ne_o_b81)
  replace F_hash := F_hash.other W91 (Or.inl ne_o_b81)
  refine k_callS G X (argsL := [(.ref b81)]) (rest := [(.ref o)]) rfl (w174 hw) (w175 hw) (w46 hw) (w176 hw) (by decide) (h_o hw s t d e b81 kd ke k81 m m' zm zm' cs f g _ h91 n0 _ ⟨ge_s, (List.mem_append_right [b81, b, b53] gm_s.2)⟩ ⟨ge_t, (List.mem_append_right [b81, b, b53] gm_t.2)⟩ SS TT hm hm' YD YE FH FZ GH GZ hm12 hm12' ne_s_t S_CS hcs A_b81 rfl rfl (Ne.symm ne_s_b81) (Ne.symm ne_t_b81)) d8_92 pd23 rfl (pc' := 95) rfl rfl (wd := 1) rfl (by decide) (by decide) (by decide) (by decide) (fun T h92 v sf92 X q => ?_)
  replace X := W.drop X
  obtain ⟨rh, rfl, K92, SS', TT'⟩ := q
  replace S_CS := Sta_keepL S_CS K92 (allS (Pln_exa SE) (allS (Pln_exa TE) (all0)))
  replace SE := SE.keep K92
  replace TE := TE.keep K92
  replace YD := YD.keep K92
  replace YE := YE.keep K92
  replace KP := KP.trans K92 (allS (Or.inl (List.mem_of_getElem? (i := 1) rfl)) (allS (Or.inl (List.mem_of_getElem? (i := 2) rfl)) (all0)))
  replace E := E.keep K92
  replace O := O.keep K92 (allS ge_s (allS ge_t (all0)))
  replace F_schema := F_schema.keep K92 (by simp only [List.mem_cons, List.not_mem_nil, or_false, not_or]; exact ⟨(Ne.symm ne_s_o), (Ne.symm ne_t_o)⟩)
  replace F_name := F_name.keep K92 (by simp only [List.mem_cons, List.not_mem_nil, or_false, not_or]; exact ⟨(Ne.symm ne_s_o), (Ne.symm ne_t_o)⟩)
  replace F_text := F_text.keep K92 (by simp only [List.mem_cons, List.not_mem_nil, or_false, not_or]; exact ⟨(Ne.symm ne_s_o), (Ne.symm ne_t_o)⟩)
  replace F_hash := F_hash.keep K92 (by simp only [List.mem_cons, List.not_mem_nil, or_false, not_or]; exact ⟨(Ne.symm ne_s_o), (Ne.symm ne_t_o)⟩)
  replace A_b81 := A_b81.keep K92 (by simp only [List.mem_cons, List.not_mem_nil, or_false, not_or]; exact ⟨(Ne.symm ne_s_b81), (Ne.symm ne_t_b81)⟩)
  have SS := SS'; have TT := TT'
  show Go Γ n0 _ T (mkF Γ.m 95 #[.val (.ref o), .val (.ref s), .val (.ref t)] [(.int rh), (.ref o)])
  refine k_putF G X (host := "") (Or.inl (w199 hw)) Via.refl F_hash E (Or.inr ⟨(w200 hw), rfl, rfl⟩) (w35 hw) (ty := .int) (by decide) rfl rfl ge_o (List.mem_append_right [b81, b, b53] gm_o.2) d8_95 (pc' := 98) rfl (fun T h95 W95 X => ?_)
  replace SE := SE.wr W95
  replace TE := TE.wr W95
  replace YD := YD.wr W95
  replace YE := YE.wr W95
  replace S_CS := S_CS.wr W95
  replace KP := KP.wr W95 (Or.inl (List.mem_of_getElem? (i := 0) rfl))
  replace E := E.wr W95
  replace O := O.wr W95 ge_o
  replace F_schema := F_schema.other W95 (Or.inr (slot_ne (Or.inr (w55 hw)) (Or.inr (w200 hw)) (by decide) (t := (.object "java/lang/String")) (t' := .int) (by decide) (by decide)))
  replace F_name := F_name.other W95 (Or.inr (slot_ne (Or.inr (w57 hw)) (Or.inr (w200 hw)) (by decide) (t := (.object "java/lang/String")) (t' := .int) (by decide) (by decide)))
  replace F_text := F_text.other W95 (Or.inr (slot_ne (Or.inr (w170 hw)) (Or.inr (w200 hw)) (by decide) (t := (.object "java/lang/String")) (t' := .int) (by decide) (by decide)))
  replace F_hash := F_hash.same W95
  replace A_b81 := A_b81.other W95 (Ne.symm ne_o_b81)
  replace SS := SS.other W95 ne_s_o ne_d_o
  replace TT := TT.other W95 ne_t_o ne_e_o
  refine k_retv G X d8_98 rfl ?_ (by decide) (by decide)
  exact ⟨rfl, KP, E, F_schema, F_name, SS, TT⟩
theorem pn_37 : plainFor (⟨"com/example/changeline/changeline/change/TableName", "equals", "(Ljava/lang/Object;)Z"⟩ : MethodName) = true := plainFor_of_name (by first | (simp [plainName, overriddenIn]; done) | decide +kernel)
set_option maxRecDepth 65536 in
set_option maxHeartbeats 40000000 in
theorem tn_q {Z : State} {a0 : Array Value} (hw : HW a0 Z) (p q s t s2 t2 d e d2 e2 : Addr) (kd ke kd2 ke2 : ClassId) (m m' w w' : Nat) (cs : Int32) (f g f2 g2 : Nat → Int32) (h0 : Heap) (n0 : Nat) (sf0 : List Addr) (EQ : Exa Z h0 q "com/example/changeline/changeline/change/TableName") (FPS : Fld Z h0 p "com/example/changeline/changeline/change/TableName" "schema" "Ljava/lang/String;" (.ref s)) (FPN : Fld Z h0 p "com/example/changeline/changeline/change/TableName" "name" "Ljava/lang/String;" (.ref t)) (FQS : Fld Z h0 q "com/example/changeline/changeline/change/TableName" "schema" "Ljava/lang/String;" (.ref s2)) (FQN : Fld Z h0 q "com/example/changeline/changeline/change/TableName" "name" "Ljava/lang/String;" (.ref t2)) (SS : Str Z h0 s d kd m f) (TT : Str Z h0 t e ke m' g) (SS2 : Str Z h0 s2 d2 kd2 w f2) (TT2 : Str Z h0 t2 e2 ke2 w' g2) (ne_s_s2 : s ≠ s2) (ne_t_t2 : t ≠ t2) (S_CS : Sta Z h0 "java/lang/String" "COMPACT_STRINGS" "Z" (.int cs)) (hcs : cs ≠ 0) :
    MetW Z consts_1 sf0 (⟨"com/example/changeline/changeline/change/TableName", "equals", "(Ljava/lang/Object;)Z"⟩ : MethodName) prog_13_method_5_code 3 (some .boolean) [] ({ frames := 2, cells := 0, slots := 0, locals := 28 } : Room) #[(.ref p), (.ref q)] h0 n0 (fun v h sf => ∃ r : Int32, v = some (.int r) ∧ (r = 0 ∨ r = 1) ∧ (r = 1 ↔ (m = w ∧ ∀ i, i < m → f i = f2 i) ∧ (m' = w' ∧ ∀ i, i < m' → g i = g2 i)) ∧ h = h0) := by
  refine k_body (hEW hw) (f := (fun m => mkF m 0 #[.val (.ref p), .val (.ref q), .unset] [])) pn_37 (fun m => by first | (simp [entryFrame, mkF, argsToLocals, Value.category, maxLocals]; done) | rfl) ?_
  intro Γ T G X
  have SE := SS.1
  have TE := TT.1
  show Go Γ n0 _ T (mkF Γ.m 0 #[.val (.ref p), .val (.ref q), .unset] [])
  refine k_aloadN G X d37_0 (pc' := 1) rfl rfl rfl ?_
  refine k_instY G X (w206 hw) (Ins.self EQ) d37_1 (pc' := 4) rfl (fun T X => ?_)
  refine k_if_eq G X d37_4 (pc' := 44) rfl (by decide) (pc'' := 7) rfl (fun c4 => (absurd c4 (by decide))) (fun c4 => ?_)
  refine k_aloadN G X d37_7 (pc' := 8) rfl rfl rfl ?_
  refine k_castY G X (w206 hw) (Ins.self EQ) d37_8 (pc' := 11) rfl (fun T X => ?_)
  refine k_astoreN G X d37_11 (pc' := 12) rfl rfl (l' := #[.val (.ref p), .val (.ref q), .val (.ref q)]) rfl ?_
  refine k_aloadN G X d37_12 (pc' := 13) rfl rfl rfl ?_
  refine k_getF G X (host := "") (Or.inl (w54 hw)) Via.refl FPS d37_13 (pc' := 16) rfl (fun T X => ?_)
  refine k_aloadN G X d37_16 (pc' := 17) rfl rfl rfl ?_
  refine k_getF G X (host := "") (Or.inl (w54 hw)) Via.refl FQS d37_17 (pc' := 20) rfl (fun T X => ?_)
  refine k_callV G X (argsL := [(.ref s2)]) (rest := []) rfl SE (w208 hw) (w209 hw) (nf_sel (w211 hw)) (w211 hw) (w210 hw) (w6 hw) (w212 hw) (by decide) (str_eq hw s s2 d d2 kd kd2 m w cs f f2 h0 n0 _ SS SS2 ne_s_s2 S_CS hcs) d37_20 pd28 rfl (pc' := 23) rfl rfl (wd := 0) rfl (by decide) (by decide) (by decide) (by decide) (fun T h20 v sf20 X q => ?_)
  replace X := W.drop X
  obtain ⟨rs, rfl, hrs, his, e20⟩ := q
  replace X := X.eq e20
  show Go Γ n0 _ T (mkF Γ.m 23 #[.val (.ref p), .val (.ref q), .val (.ref q)] [(.int rs)])
  refine k_if_eq G X d37_23 (pc' := 44) rfl (by decide) (pc'' := 26) rfl (fun c23 => ?_) (fun c23 => ?_)
  · refine k_iconst G X d37_44 (pc' := 45) rfl (z := (0 : Int32)) (by decide) ?_
    refine k_retb G X d37_45 (t := .boolean) rfl (by simp) rfl ?_ (by decide) (by decide)
    first | exact ⟨_, rfl, Or.inl rfl, ⟨fun q => absurd q (by decide), fun q => absurd (his.mpr q.1) (by rw [c23]; decide)⟩, rfl⟩ | exact ⟨_, rfl, Or.inl rfl, ⟨fun q => absurd q (by decide), fun q => absurd (hit.mpr q.2) (by rw [c37]; decide)⟩, rfl⟩
  · refine k_aloadN G X d37_26 (pc' := 27) rfl rfl rfl ?_
    refine k_getF G X (host := "") (Or.inl (w56 hw)) Via.refl FPN d37_27 (pc' := 30) rfl (fun T X => ?_)
    refine k_aloadN G X d37_30 (pc' := 31) rfl rfl rfl ?_
    refine k_getF G X (host := "") (Or.inl (w56 hw)) Via.refl FQN d37_31 (pc' := 34) rfl (fun T X => ?_)
    refine k_callV G X (argsL := [(.ref t2)]) (rest := []) rfl TE (w208 hw) (w209 hw) (nf_sel (w211 hw)) (w211 hw) (w210 hw) (w6 hw) (w212 hw) (by decide) (str_eq hw t t2 e e2 ke ke2 m' w' cs g g2 h0 n0 _ TT TT2 ne_t_t2 S_CS hcs) d37_34 pd28 rfl (pc' := 37) rfl rfl (wd := 0) rfl (by decide) (by decide) (by decide) (by decide) (fun T h34 v sf34 X q => ?_)
    replace X := W.drop X
    obtain ⟨rt, rfl, hrt, hit, e34⟩ := q
    replace X := X.eq e34
    show Go Γ n0 _ T (mkF Γ.m 37 #[.val (.ref p), .val (.ref q), .val (.ref q)] [(.int rt)])
    refine k_if_eq G X d37_37 (pc' := 44) rfl (by decide) (pc'' := 40) rfl (fun c37 => ?_) (fun c37 => ?_)
    · refine k_iconst G X d37_44 (pc' := 45) rfl (z := (0 : Int32)) (by decide) ?_
      refine k_retb G X d37_45 (t := .boolean) rfl (by simp) rfl ?_ (by decide) (by decide)
      first | exact ⟨_, rfl, Or.inl rfl, ⟨fun q => absurd q (by decide), fun q => absurd (his.mpr q.1) (by rw [c23]; decide)⟩, rfl⟩ | exact ⟨_, rfl, Or.inl rfl, ⟨fun q => absurd q (by decide), fun q => absurd (hit.mpr q.2) (by rw [c37]; decide)⟩, rfl⟩
    · refine k_iconst G X d37_40 (pc' := 41) rfl (z := (1 : Int32)) (by decide) ?_
      refine k_goto G X d37_41 (by decide) (pc' := 45) rfl ?_
      refine k_retb G X d37_45 (t := .boolean) rfl (by simp) rfl ?_ (by decide) (by decide)
      exact ⟨_, rfl, Or.inr rfl, ⟨fun _ => ⟨his.mp (hrs.resolve_left c23), hit.mp (hrt.resolve_left c37)⟩, fun _ => rfl⟩, rfl⟩
set_option maxRecDepth 65536 in
set_option maxHeartbeats 40000000 in
theorem tn_s {Z : State} {a0 : Array Value} (hw : HW a0 Z) (p s t : Addr) (h0 : Heap) (n0 : Nat) (sf0 : List Addr) (EP : Exa Z h0 p "com/example/changeline/changeline/change/TableName") (FPS : Fld Z h0 p "com/example/changeline/changeline/change/TableName" "schema" "Ljava/lang/String;" (.ref s)) (FPN : Fld Z h0 p "com/example/changeline/changeline/change/TableName" "name" "Ljava/lang/String;" (.ref t)) (SE : Exa Z h0 s "java/lang/String") (TE : Exa Z h0 t "java/lang/String") :
    MetW Z consts_1 sf0 (⟨"com/example/changeline/changeline/change/TableName", "equals", "(Ljava/lang/Object;)Z"⟩ : MethodName) prog_13_method_5_code 3 (some .boolean) [] ({ frames := 1, cells := 0, slots := 0, locals := 14 } : Room) #[(.ref p), (.ref p)] h0 n0 (fun v h sf => v = some (.int 1) ∧ h = h0) := by
  refine k_body (hEW hw) (f := (fun m => mkF m 0 #[.val (.ref p), .val (.ref p), .unset] [])) pn_37 (fun m => by first | (simp [entryFrame, mkF, argsToLocals, Value.category, maxLocals]; done) | rfl) ?_
  intro Γ T G X
  show Go Γ n0 _ T (mkF Γ.m 0 #[.val (.ref p), .val (.ref p), .unset] [])
  refine k_aloadN G X d37_0 (pc' := 1) rfl rfl rfl ?_
  refine k_instY G X (w206 hw) (Ins.self EP) d37_1 (pc' := 4) rfl (fun T X => ?_)
  refine k_if_eq G X d37_4 (pc' := 44) rfl (by decide) (pc'' := 7) rfl (fun c4 => (absurd c4 (by decide))) (fun c4 => ?_)
  refine k_aloadN G X d37_7 (pc' := 8) rfl rfl rfl ?_
  refine k_castY G X (w206 hw) (Ins.self EP) d37_8 (pc' := 11) rfl (fun T X => ?_)
  refine k_astoreN G X d37_11 (pc' := 12) rfl rfl (l' := #[.val (.ref p), .val (.ref p), .val (.ref p)]) rfl ?_
  refine k_aloadN G X d37_12 (pc' := 13) rfl rfl rfl ?_
  refine k_getF G X (host := "") (Or.inl (w54 hw)) Via.refl FPS d37_13 (pc' := 16) rfl (fun T X => ?_)
  refine k_aloadN G X d37_16 (pc' := 17) rfl rfl rfl ?_
  refine k_getF G X (host := "") (Or.inl (w54 hw)) Via.refl FPS d37_17 (pc' := 20) rfl (fun T X => ?_)
  refine k_callV G X (argsL := [(.ref s)]) (rest := []) rfl SE (w208 hw) (w209 hw) (nf_sel (w211 hw)) (w211 hw) (w210 hw) (w6 hw) (w212 hw) (by decide) (str_eqs hw s h0 n0 _) d37_20 pd28 rfl (pc' := 23) rfl rfl (wd := 0) rfl (by decide) (by decide) (by decide) (by decide) (fun T h20 v sf20 X q => ?_)
  replace X := W.drop X
  obtain ⟨rfl, e20⟩ := q
  replace X := X.eq e20
  show Go Γ n0 _ T (mkF Γ.m 23 #[.val (.ref p), .val (.ref p), .val (.ref p)] [(.int (1 : Int32))])
  refine k_if_eq G X d37_23 (pc' := 44) rfl (by decide) (pc'' := 26) rfl (fun c23 => (absurd c23 (by decide))) (fun c23 => ?_)
  refine k_aloadN G X d37_26 (pc' := 27) rfl rfl rfl ?_
  refine k_getF G X (host := "") (Or.inl (w56 hw)) Via.refl FPN d37_27 (pc' := 30) rfl (fun T X => ?_)
  refine k_aloadN G X d37_30 (pc' := 31) rfl rfl rfl ?_
  refine k_getF G X (host := "") (Or.inl (w56 hw)) Via.refl FPN d37_31 (pc' := 34) rfl (fun T X => ?_)
  refine k_callV G X (argsL := [(.ref t)]) (rest := []) rfl TE (w208 hw) (w209 hw) (nf_sel (w211 hw)) (w211 hw) (w210 hw) (w6 hw) (w212 hw) (by decide) (str_eqs hw t h0 n0 _) d37_34 pd28 rfl (pc' := 37) rfl rfl (wd := 0) rfl (by decide) (by decide) (by decide) (by decide) (fun T h34 v sf34 X q => ?_)
  replace X := W.drop X
  obtain ⟨rfl, e34⟩ := q
  replace X := X.eq e34
  show Go Γ n0 _ T (mkF Γ.m 37 #[.val (.ref p), .val (.ref p), .val (.ref p)] [(.int (1 : Int32))])
  refine k_if_eq G X d37_37 (pc' := 44) rfl (by decide) (pc'' := 40) rfl (fun c37 => (absurd c37 (by decide))) (fun c37 => ?_)
  refine k_iconst G X d37_40 (pc' := 41) rfl (z := (1 : Int32)) (by decide) ?_
  refine k_goto G X d37_41 (by decide) (pc' := 45) rfl ?_
  refine k_retb G X d37_45 (t := .boolean) rfl (by simp) rfl ?_ (by decide) (by decide)
  exact ⟨rfl, rfl⟩
set_option maxRecDepth 65536 in
set_option maxHeartbeats 40000000 in
theorem tn_n {Z : State} {a0 : Array Value} (hw : HW a0 Z) (p : Addr) (h0 : Heap) (n0 : Nat) (sf0 : List Addr) :
    MetW Z consts_1 sf0 (⟨"com/example/changeline/changeline/change/TableName", "equals", "(Ljava/lang/Object;)Z"⟩ : MethodName) prog_13_method_5_code 3 (some .boolean) [] ({ frames := 0, cells := 0, slots := 0, locals := 0 } : Room) #[(.ref p), .null] h0 n0 (fun v h sf => v = some (.int 0) ∧ h = h0) := by
  refine k_body (hEW hw) (f := (fun m => mkF m 0 #[.val (.ref p), .val .null, .unset] [])) pn_37 (fun m => by first | (simp [entryFrame, mkF, argsToLocals, Value.category, maxLocals]; done) | rfl) ?_
  intro Γ T G X
  show Go Γ n0 _ T (mkF Γ.m 0 #[.val (.ref p), .val .null, .unset] [])
  refine k_aloadN G X d37_0 (pc' := 1) rfl rfl rfl ?_
  refine k_instNull G X d37_1 (pc' := 4) rfl ?_
  refine k_if_eq G X d37_4 (pc' := 44) rfl (by decide) (pc'' := 7) rfl (fun c4 => ?_) (fun c4 => (absurd c4 (by decide)))
  refine k_iconst G X d37_44 (pc' := 45) rfl (z := (0 : Int32)) (by decide) ?_
  refine k_retb G X d37_45 (t := .boolean) rfl (by simp) rfl ?_ (by decide) (by decide)
  exact ⟨rfl, rfl⟩
set_option maxRecDepth 65536 in
set_option maxHeartbeats 40000000 in
theorem tn_t {Z : State} {a0 : Array Value} (hw : HW a0 Z) (p x : Addr) (h0 : Heap) (n0 : Nat) (sf0 : List Addr) (EX : Exa Z h0 x "java/lang/String") :
    MetW Z consts_1 sf0 (⟨"com/example/changeline/changeline/change/TableName", "equals", "(Ljava/lang/Object;)Z"⟩ : MethodName) prog_13_method_5_code 3 (some .boolean) [] ({ frames := 0, cells := 0, slots := 0, locals := 0 } : Room) #[(.ref p), (.ref x)] h0 n0 (fun v h sf => v = some (.int 0) ∧ h = h0) := by
  refine k_body (hEW hw) (f := (fun m => mkF m 0 #[.val (.ref p), .val (.ref x), .unset] [])) pn_37 (fun m => by first | (simp [entryFrame, mkF, argsToLocals, Value.category, maxLocals]; done) | rfl) ?_
  intro Γ T G X
  show Go Γ n0 _ T (mkF Γ.m 0 #[.val (.ref p), .val (.ref x), .unset] [])
  refine k_aloadN G X d37_0 (pc' := 1) rfl rfl rfl ?_
  refine k_instNo G X (w206 hw) EX (noInst (w226 hw) (w227 hw) (w35 hw) (by decide) (by decide)) d37_1 (pc' := 4) rfl (fun T X => ?_)
  refine k_if_eq G X d37_4 (pc' := 44) rfl (by decide) (pc'' := 7) rfl (fun c4 => ?_) (fun c4 => (absurd c4 (by decide)))
  refine k_iconst G X d37_44 (pc' := 45) rfl (z := (0 : Int32)) (by decide) ?_
  refine k_retb G X d37_45 (t := .boolean) rfl (by simp) rfl ?_ (by decide) (by decide)
  exact ⟨rfl, rfl⟩
theorem own_len1 (x : Int32) : ∃ n : Nat, ((1 : Int32) + (x &&& (1 : Int32))).toInt = n ∧ 1 ≤ n ∧ n ≤ 2 ∧ ((n = 1 ∧ ((1 : Int32) + (x &&& (1 : Int32))) = 1) ∨ (n = 2 ∧ ((1 : Int32) + (x &&& (1 : Int32))) = 2)) := by
  have h1 := and_rng x (m := 1) 1 rfl (by decide)
  have h3 : (1 : Int32).toInt = 1 := rfl
  have h4 : (2 : Int32).toInt = 2 := rfl
  have h2 : ((1 : Int32) + (x &&& (1 : Int32))).toInt = 1 + (x &&& (1 : Int32)).toInt := by rw [iadd_toInt (by omega) (by omega), h3]
  rcases (by omega : (x &&& (1 : Int32)).toInt = 0 ∨ (x &&& (1 : Int32)).toInt = 1) with q | q
  · exact ⟨1, by omega, by omega, by omega, Or.inl ⟨rfl, of_toInt (by omega)⟩⟩
  · exact ⟨2, by omega, by omega, by omega, Or.inr ⟨rfl, of_toInt (by omega)⟩⟩
theorem xor_rng {x y : Int32} (hx : 0 ≤ x.toInt ∧ x.toInt ≤ 255) (hy : 0 ≤ y.toInt ∧ y.toInt ≤ 255) : 0 ≤ (x ^^^ y).toInt ∧ (x ^^^ y).toInt ≤ 255 := by
  have tn : ∀ z : Int32, 0 ≤ z.toInt → z.toInt = (z.toBitVec.toNat : Int) := fun z hz => by
    have e : z.toInt = z.toBitVec.toInt := rfl
    rw [e, BitVec.toInt_eq_toNat_cond] at hz
    rw [e, BitVec.toInt_eq_toNat_cond]
    split
    · rfl
    · rename_i q; rw [if_neg q] at hz; have := z.toBitVec.isLt; omega
  have a := tn x hx.1; have b := tn y hy.1
  have c : (x ^^^ y).toBitVec.toNat < 2 ^ 8 := by
    rw [Int32.toBitVec_xor, BitVec.toNat_xor]
    exact Nat.xor_lt_two_pow (by omega) (by omega)
  have e : (x ^^^ y).toInt = (x ^^^ y).toBitVec.toInt := rfl
  rw [e, BitVec.toInt_eq_toNat_cond, if_pos (by omega)]
  omega
theorem own_fin {PS PN : Prop} {r rS rN : Int32} (hr : r = 0 ∨ r = 1) (hi : r = 1 ↔ PS ∧ PN) (hS : (rS = 1 ∧ PS) ∨ (rS = 0 ∧ ¬ PS)) (hN : (rN = 1 ∧ PN) ∨ (rN = 0 ∧ ¬ PN)) : (rS ≠ 0 → rN ≠ 0 → r = 1) ∧ (rS = 0 → r = 0) ∧ (rN = 0 → r = 0) := by
  refine ⟨fun a b => hi.mpr ⟨?_, ?_⟩, fun a => hr.resolve_right fun q => ?_, fun a => hr.resolve_right fun q => ?_⟩
  · rcases hS with q | q; exact q.2; exact absurd q.1 a
  · rcases hN with q | q; exact q.2; exact absurd q.1 b
  · rcases hS with p | p; rw [p.1] at a; exact absurd a (by decide); exact p.2 (hi.mp q).1
  · rcases hN with p | p; rw [p.1] at a; exact absurd a (by decide); exact p.2 (hi.mp q).2

theorem pn_0 : plainFor (⟨"com/example/changeline/changeline/change/TableNameEqualsPinLaw", "law", "(IIIII)Z"⟩ : MethodName) = true := plainFor_of_name (by first | (simp [plainName, overriddenIn]; done) | decide +kernel)
set_option maxRecDepth 65536 in
set_option maxHeartbeats 40000000 in
theorem rm0 {Z : State} {a0 : Array Value} (hw : HW a0 Z) (p0 p1 p2 p3 p4 cs : Int32) (h0 : Heap) (n0 : Nat) (O : Old Z n0 h0) (S_CS : Sta Z h0 "java/lang/String" "COMPACT_STRINGS" "Z" (.int cs)) (hcs : cs ≠ 0) :
    MetW Z consts_1 [] x code maxLocals ret tables_1 room_1 #[(.int p0), (.int p1), (.int p2), (.int p3), (.int p4)] h0 n0 (fun v h sf => v = some (.int 1)) := by
  refine k_body (hEW hw) (f := (fun m => mkF m 0 #[.val (.int p0), .val (.int p1), .val (.int p2), .val (.int p3), .val (.int p4), .unset, .unset, .unset, .unset, .unset, .unset, .unset, .unset, .unset, .unset, .unset, .unset, .unset, .unset, .unset, .unset, .unset, .unset, .unset, .unset, .unset, .unset, .unset, .unset, .unset] [])) pn_0 (fun m => by first | (simp [entryFrame, mkF, argsToLocals, Value.category, maxLocals]; done) | rfl) ?_
  intro Γ T G X
  show Go Γ n0 _ T (mkF Γ.m 0 #[.val (.int p0), .val (.int p1), .val (.int p2), .val (.int p3), .val (.int p4), .unset, .unset, .unset, .unset, .unset, .unset, .unset, .unset, .unset, .unset, .unset, .unset, .unset, .unset, .unset, .unset, .unset, .unset, .unset, .unset, .unset, .unset, .unset, .unset, .unset] [])
  refine k_iconst G X at_0 (pc' := 1) rfl (z := (1 : Int32)) (by decide) ?_
  refine k_iload G X at_1 (pc' := 3) rfl rfl ?_
  refine k_iconst G X at_3 (pc' := 4) rfl (z := (2 : Int32)) (by decide) ?_
  refine k_iushr G X at_4 (pc' := 5) rfl rfl ?_
  refine k_iconst G X at_5 (pc' := 6) rfl (z := (1 : Int32)) (by decide) ?_
  refine k_iand G X at_6 (pc' := 7) rfl rfl ?_
  refine k_iadd G X at_7 (pc' := 8) rfl rfl ?_
  obtain ⟨l1, hn_las, ge1_las, le2_las, m12_las⟩ := own_len1 ((p4.toUInt32 >>> ((2 : Int32) &&& 31).toUInt32).toInt32)
  obtain ⟨las, q_las⟩ : ∃ z, ((1 : Int32) + (((p4.toUInt32 >>> ((2 : Int32) &&& 31).toUInt32).toInt32) &&& (1 : Int32))) = z := ⟨_, rfl⟩
  rw [q_las] at hn_las m12_las ⊢
  refine k_istore G X at_8 (pc' := 10) rfl (l' := #[.val (.int p0), .val (.int p1), .val (.int p2), .val (.int p3), .val (.int p4), .val (.int las), .unset, .unset, .unset, .unset, .unset, .unset, .unset, .unset, .unset, .unset, .unset, .unset, .unset, .unset, .unset, .unset, .unset, .unset, .unset, .unset, .unset, .unset, .unset, .unset]) rfl ?_
  refine k_iconst G X at_10 (pc' := 11) rfl (z := (1 : Int32)) (by decide) ?_
  refine k_iload G X at_11 (pc' := 13) rfl rfl ?_
  refine k_iconst G X at_13 (pc' := 14) rfl (z := (3 : Int32)) (by decide) ?_
  refine k_iushr G X at_14 (pc' := 15) rfl rfl ?_
  refine k_iconst G X at_15 (pc' := 16) rfl (z := (1 : Int32)) (by decide) ?_
  refine k_iand G X at_16 (pc' := 17) rfl rfl ?_
  refine k_iadd G X at_17 (pc' := 18) rfl rfl ?_
  obtain ⟨l2, hn_lbs, ge1_lbs, le2_lbs, m12_lbs⟩ := own_len1 ((p4.toUInt32 >>> ((3 : Int32) &&& 31).toUInt32).toInt32)
  obtain ⟨lbs, q_lbs⟩ : ∃ z, ((1 : Int32) + (((p4.toUInt32 >>> ((3 : Int32) &&& 31).toUInt32).toInt32) &&& (1 : Int32))) = z := ⟨_, rfl⟩
  rw [q_lbs] at hn_lbs m12_lbs ⊢
  refine k_istore G X at_18 (pc' := 20) rfl (l' := #[.val (.int p0), .val (.int p1), .val (.int p2), .val (.int p3), .val (.int p4), .val (.int las), .val (.int lbs), .unset, .unset, .unset, .unset, .unset, .unset, .unset, .unset, .unset, .unset, .unset, .unset, .unset, .unset, .unset, .unset, .unset, .unset, .unset, .unset, .unset, .unset, .unset]) rfl ?_
  refine k_iconst G X at_20 (pc' := 21) rfl (z := (1 : Int32)) (by decide) ?_
  refine k_iload G X at_21 (pc' := 23) rfl rfl ?_
  refine k_iconst G X at_23 (pc' := 24) rfl (z := (4 : Int32)) (by decide) ?_
  refine k_iushr G X at_24 (pc' := 25) rfl rfl ?_
  refine k_iconst G X at_25 (pc' := 26) rfl (z := (1 : Int32)) (by decide) ?_
  refine k_iand G X at_26 (pc' := 27) rfl rfl ?_
  refine k_iadd G X at_27 (pc' := 28) rfl rfl ?_
  obtain ⟨l3, hn_lan, ge1_lan, le2_lan, m12_lan⟩ := own_len1 ((p4.toUInt32 >>> ((4 : Int32) &&& 31).toUInt32).toInt32)
  obtain ⟨lan, q_lan⟩ : ∃ z, ((1 : Int32) + (((p4.toUInt32 >>> ((4 : Int32) &&& 31).toUInt32).toInt32) &&& (1 : Int32))) = z := ⟨_, rfl⟩
  rw [q_lan] at hn_lan m12_lan ⊢
  refine k_istore G X at_28 (pc' := 30) rfl (l' := #[.val (.int p0), .val (.int p1), .val (.int p2), .val (.int p3), .val (.int p4), .val (.int las), .val (.int lbs), .val (.int lan), .unset, .unset, .unset, .unset, .unset, .unset, .unset, .unset, .unset, .unset, .unset, .unset, .unset, .unset, .unset, .unset, .unset, .unset, .unset, .unset, .unset, .unset]) rfl ?_
  refine k_iconst G X at_30 (pc' := 31) rfl (z := (1 : Int32)) (by decide) ?_
  refine k_iload G X at_31 (pc' := 33) rfl rfl ?_
  refine k_iconst G X at_33 (pc' := 34) rfl (z := (5 : Int32)) (by decide) ?_
  refine k_iushr G X at_34 (pc' := 35) rfl rfl ?_
  refine k_iconst G X at_35 (pc' := 36) rfl (z := (1 : Int32)) (by decide) ?_
  refine k_iand G X at_36 (pc' := 37) rfl rfl ?_
  refine k_iadd G X at_37 (pc' := 38) rfl rfl ?_
  obtain ⟨l4, hn_lbn, ge1_lbn, le2_lbn, m12_lbn⟩ := own_len1 ((p4.toUInt32 >>> ((5 : Int32) &&& 31).toUInt32).toInt32)
  obtain ⟨lbn, q_lbn⟩ : ∃ z, ((1 : Int32) + (((p4.toUInt32 >>> ((5 : Int32) &&& 31).toUInt32).toInt32) &&& (1 : Int32))) = z := ⟨_, rfl⟩
  rw [q_lbn] at hn_lbn m12_lbn ⊢
  refine k_istore G X at_38 (pc' := 40) rfl (l' := #[.val (.int p0), .val (.int p1), .val (.int p2), .val (.int p3), .val (.int p4), .val (.int las), .val (.int lbs), .val (.int lan), .val (.int lbn), .unset, .unset, .unset, .unset, .unset, .unset, .unset, .unset, .unset, .unset, .unset, .unset, .unset, .unset, .unset, .unset, .unset, .unset, .unset, .unset, .unset]) rfl ?_
  refine k_iloadN G X at_40 (pc' := 41) rfl rfl ?_
  refine k_sipush G X at_41 (pc' := 44) rfl (z := (255 : Int32)) (by decide) ?_
  refine k_iand G X at_44 (pc' := 45) rfl rfl ?_
  obtain ⟨sa0, q_sa0⟩ : ∃ z, (p0 &&& (255 : Int32)) = z := ⟨_, rfl⟩
  have rg_sa0 : 0 ≤ sa0.toInt ∧ sa0.toInt ≤ 255 := by rw [← q_sa0]; exact and_rng _ 255 rfl (by decide)
  rw [q_sa0]
  refine k_istore G X at_45 (pc' := 47) rfl (l' := #[.val (.int p0), .val (.int p1), .val (.int p2), .val (.int p3), .val (.int p4), .val (.int las), .val (.int lbs), .val (.int lan), .val (.int lbn), .val (.int sa0), .unset, .unset, .unset, .unset, .unset, .unset, .unset, .unset, .unset, .unset, .unset, .unset, .unset, .unset, .unset, .unset, .unset, .unset, .unset, .unset]) rfl ?_
  refine k_iloadN G X at_47 (pc' := 48) rfl rfl ?_
  refine k_bipush G X at_48 (pc' := 50) rfl (z := (8 : Int32)) (by decide) ?_
  refine k_iushr G X at_50 (pc' := 51) rfl rfl ?_
  refine k_sipush G X at_51 (pc' := 54) rfl (z := (255 : Int32)) (by decide) ?_
  refine k_iand G X at_54 (pc' := 55) rfl rfl ?_
  obtain ⟨sa1, q_sa1⟩ : ∃ z, (((p0.toUInt32 >>> ((8 : Int32) &&& 31).toUInt32).toInt32) &&& (255 : Int32)) = z := ⟨_, rfl⟩
  have rg_sa1 : 0 ≤ sa1.toInt ∧ sa1.toInt ≤ 255 := by rw [← q_sa1]; exact and_rng _ 255 rfl (by decide)
  rw [q_sa1]
  refine k_istore G X at_55 (pc' := 57) rfl (l' := #[.val (.int p0), .val (.int p1), .val (.int p2), .val (.int p3), .val (.int p4), .val (.int las), .val (.int lbs), .val (.int lan), .val (.int lbn), .val (.int sa0), .val (.int sa1), .unset, .unset, .unset, .unset, .unset, .unset, .unset, .unset, .unset, .unset, .unset, .unset, .unset, .unset, .unset, .unset, .unset, .unset, .unset]) rfl ?_
  have J115 : ∀ (T : State) (fS : Int32) (sb0 : Int32) (sb1 : Int32), (0 ≤ sb0.toInt ∧ sb0.toInt ≤ 255) → (0 ≤ sb1.toInt ∧ sb1.toInt ≤ 255) → W Γ n0 T h0 0 0 ([]) → Go Γ n0 (fun v h sf => v = some (.int 1)) T (mkF Γ.m 115 #[.val (.int p0), .val (.int p1), .val (.int p2), .val (.int p3), .val (.int p4), .val (.int las), .val (.int lbs), .val (.int lan), .val (.int lbn), .val (.int sa0), .val (.int sa1), .val (.int fS), .val (.int sb0), .val (.int sb1), .unset, .unset, .unset, .unset, .unset, .unset, .unset, .unset, .unset, .unset, .unset, .unset, .unset, .unset, .unset, .unset] []) := by
    intro T fS sb0 sb1 rg_sb0 rg_sb1 X
    refine k_iloadN G X at_115 (pc' := 116) rfl rfl ?_
    refine k_sipush G X at_116 (pc' := 119) rfl (z := (255 : Int32)) (by decide) ?_
    refine k_iand G X at_119 (pc' := 120) rfl rfl ?_
    obtain ⟨na0, q_na0⟩ : ∃ z, (p1 &&& (255 : Int32)) = z := ⟨_, rfl⟩
    have rg_na0 : 0 ≤ na0.toInt ∧ na0.toInt ≤ 255 := by rw [← q_na0]; exact and_rng _ 255 rfl (by decide)
    rw [q_na0]
    refine k_istore G X at_120 (pc' := 122) rfl (l' := #[.val (.int p0), .val (.int p1), .val (.int p2), .val (.int p3), .val (.int p4), .val (.int las), .val (.int lbs), .val (.int lan), .val (.int lbn), .val (.int sa0), .val (.int sa1), .val (.int fS), .val (.int sb0), .val (.int sb1), .val (.int na0), .unset, .unset, .unset, .unset, .unset, .unset, .unset, .unset, .unset, .unset, .unset, .unset, .unset, .unset, .unset]) rfl ?_
    refine k_iloadN G X at_122 (pc' := 123) rfl rfl ?_
    refine k_bipush G X at_123 (pc' := 125) rfl (z := (8 : Int32)) (by decide) ?_
    refine k_iushr G X at_125 (pc' := 126) rfl rfl ?_
    refine k_sipush G X at_126 (pc' := 129) rfl (z := (255 : Int32)) (by decide) ?_
    refine k_iand G X at_129 (pc' := 130) rfl rfl ?_
    obtain ⟨na1, q_na1⟩ : ∃ z, (((p1.toUInt32 >>> ((8 : Int32) &&& 31).toUInt32).toInt32) &&& (255 : Int32)) = z := ⟨_, rfl⟩
    have rg_na1 : 0 ≤ na1.toInt ∧ na1.toInt ≤ 255 := by rw [← q_na1]; exact and_rng _ 255 rfl (by decide)
    rw [q_na1]
    refine k_istore G X at_130 (pc' := 132) rfl (l' := #[.val (.int p0), .val (.int p1), .val (.int p2), .val (.int p3), .val (.int p4), .val (.int las), .val (.int lbs), .val (.int lan), .val (.int lbn), .val (.int sa0), .val (.int sa1), .val (.int fS), .val (.int sb0), .val (.int sb1), .val (.int na0), .val (.int na1), .unset, .unset, .unset, .unset, .unset, .unset, .unset, .unset, .unset, .unset, .unset, .unset, .unset, .unset]) rfl ?_
    have J190 : ∀ (T : State) (fN : Int32) (nb0 : Int32) (nb1 : Int32), (0 ≤ nb0.toInt ∧ nb0.toInt ≤ 255) → (0 ≤ nb1.toInt ∧ nb1.toInt ≤ 255) → W Γ n0 T h0 0 0 ([]) → Go Γ n0 (fun v h sf => v = some (.int 1)) T (mkF Γ.m 190 #[.val (.int p0), .val (.int p1), .val (.int p2), .val (.int p3), .val (.int p4), .val (.int las), .val (.int lbs), .val (.int lan), .val (.int lbn), .val (.int sa0), .val (.int sa1), .val (.int fS), .val (.int sb0), .val (.int sb1), .val (.int na0), .val (.int na1), .val (.int fN), .val (.int nb0), .val (.int nb1), .unset, .unset, .unset, .unset, .unset, .unset, .unset, .unset, .unset, .unset, .unset] []) := by
      intro T fN nb0 nb1 rg_nb0 rg_nb1 X
      refine k_iload G X at_190 (pc' := 192) rfl rfl ?_
      refine k_iload G X at_192 (pc' := 194) rfl rfl ?_
      refine k_iload G X at_194 (pc' := 196) rfl rfl ?_
      refine k_callS G X (argsL := [(.int las), (.int sa0), (.int sa1)]) (rest := []) rfl (w0 hw) (w1 hw) (w2 hw) (w3 hw) (by decide) (mk hw las sa0 sa1 cs l1 h0 n0 _ hn_las ge1_las le2_las rg_sa0 rg_sa1 O S_CS hcs) at_196 pd29 rfl (pc' := 199) rfl rfl (wd := 0) rfl (by decide) (by decide) (by decide) (by decide) (fun T h196 v sf196 X q => ?_)
      obtain ⟨s196, t196, k196, rfl, sz_s196, sz_t196, K196, SS196, YB196, FH196, FZ196, hms196⟩ := q
      replace X := W.only X hms196
      have ge_s196 : n0 ≤ s196 := Nat.le_trans (Old_le O) sz_s196
      have X_s196 := SS196.1
      have ne_t196_s196 : t196 ≠ s196 := ne_exa YB196 X_s196 (by decide)
      replace S_CS := Jvm.OwnK.Sta_keep S_CS K196
      replace O := O.keep K196 (all0)
      show Go Γ n0 _ T (mkF Γ.m 199 #[.val (.int p0), .val (.int p1), .val (.int p2), .val (.int p3), .val (.int p4), .val (.int las), .val (.int lbs), .val (.int lan), .val (.int lbn), .val (.int sa0), .val (.int sa1), .val (.int fS), .val (.int sb0), .val (.int sb1), .val (.int na0), .val (.int na1), .val (.int fN), .val (.int nb0), .val (.int nb1), .unset, .unset, .unset, .unset, .unset, .unset, .unset, .unset, .unset, .unset, .unset] [(.ref s196)])
      refine k_astore G X at_199 (pc' := 201) rfl rfl (l' := #[.val (.int p0), .val (.int p1), .val (.int p2), .val (.int p3), .val (.int p4), .val (.int las), .val (.int lbs), .val (.int lan), .val (.int lbn), .val (.int sa0), .val (.int sa1), .val (.int fS), .val (.int sb0), .val (.int sb1), .val (.int na0), .val (.int na1), .val (.int fN), .val (.int nb0), .val (.int nb1), .val (.ref s196), .unset, .unset, .unset, .unset, .unset, .unset, .unset, .unset, .unset, .unset]) rfl ?_
      refine k_iload G X at_201 (pc' := 203) rfl rfl ?_
      refine k_iload G X at_203 (pc' := 205) rfl rfl ?_
      refine k_iload G X at_205 (pc' := 207) rfl rfl ?_
      refine k_callS G X (argsL := [(.int lbs), (.int sb0), (.int sb1)]) (rest := []) rfl (w0 hw) (w1 hw) (w2 hw) (w3 hw) (by decide) (mk hw lbs sb0 sb1 cs l2 h196 n0 _ hn_lbs ge1_lbs le2_lbs rg_sb0 rg_sb1 O S_CS hcs) at_207 pd29 rfl (pc' := 210) rfl rfl (wd := 0) rfl (by decide) (by decide) (by decide) (by decide) (fun T h207 v sf207 X q => ?_)
      obtain ⟨s207, t207, k207, rfl, sz_s207, sz_t207, K207, SS207, YB207, FH207, FZ207, hms207⟩ := q
      replace X := W.only X hms207
      have ne_s196_s207 : s196 ≠ s207 := Nat.ne_of_lt (Nat.lt_of_lt_of_le SS196.lt sz_s207)
      have ne_t196_s207 : t196 ≠ s207 := Nat.ne_of_lt (Nat.lt_of_lt_of_le SS196.lt' sz_s207)
      have ne_s196_t207 : s196 ≠ t207 := Nat.ne_of_lt (Nat.lt_of_lt_of_le SS196.lt sz_t207)
      have ne_t196_t207 : t196 ≠ t207 := Nat.ne_of_lt (Nat.lt_of_lt_of_le SS196.lt' sz_t207)
      have ge_s207 : n0 ≤ s207 := Nat.le_trans (Old_le O) sz_s207
      have X_s207 := SS207.1
      have ne_t207_s207 : t207 ≠ s207 := ne_exa YB207 X_s207 (by decide)
      replace S_CS := Jvm.OwnK.Sta_keep S_CS K207
      replace O := O.keep K207 (all0)
      replace SS196 := SS196.keep K207 nin0 nin0
      replace X_s196 := X_s196.keep K207
      replace YB196 := YB196.keep K207
      replace FH196 := FH196.keep K207 nin0
      replace FZ196 := FZ196.keep K207 nin0
      show Go Γ n0 _ T (mkF Γ.m 210 #[.val (.int p0), .val (.int p1), .val (.int p2), .val (.int p3), .val (.int p4), .val (.int las), .val (.int lbs), .val (.int lan), .val (.int lbn), .val (.int sa0), .val (.int sa1), .val (.int fS), .val (.int sb0), .val (.int sb1), .val (.int na0), .val (.int na1), .val (.int fN), .val (.int nb0), .val (.int nb1), .val (.ref s196), .unset, .unset, .unset, .unset, .unset, .unset, .unset, .unset, .unset, .unset] [(.ref s207)])
      refine k_astore G X at_210 (pc' := 212) rfl rfl (l' := #[.val (.int p0), .val (.int p1), .val (.int p2), .val (.int p3), .val (.int p4), .val (.int las), .val (.int lbs), .val (.int lan), .val (.int lbn), .val (.int sa0), .val (.int sa1), .val (.int fS), .val (.int sb0), .val (.int sb1), .val (.int na0), .val (.int na1), .val (.int fN), .val (.int nb0), .val (.int nb1), .val (.ref s196), .val (.ref s207), .unset, .unset, .unset, .unset, .unset, .unset, .unset, .unset, .unset]) rfl ?_
      refine k_iload G X at_212 (pc' := 214) rfl rfl ?_
      refine k_iload G X at_214 (pc' := 216) rfl rfl ?_
      refine k_iload G X at_216 (pc' := 218) rfl rfl ?_
      refine k_callS G X (argsL := [(.int lan), (.int na0), (.int na1)]) (rest := []) rfl (w0 hw) (w1 hw) (w2 hw) (w3 hw) (by decide) (mk hw lan na0 na1 cs l3 h207 n0 _ hn_lan ge1_lan le2_lan rg_na0 rg_na1 O S_CS hcs) at_218 pd29 rfl (pc' := 221) rfl rfl (wd := 0) rfl (by decide) (by decide) (by decide) (by decide) (fun T h218 v sf218 X q => ?_)
      obtain ⟨s218, t218, k218, rfl, sz_s218, sz_t218, K218, SS218, YB218, FH218, FZ218, hms218⟩ := q
      replace X := W.only X hms218
      have ne_s196_s218 : s196 ≠ s218 := Nat.ne_of_lt (Nat.lt_of_lt_of_le SS196.lt sz_s218)
      have ne_t196_s218 : t196 ≠ s218 := Nat.ne_of_lt (Nat.lt_of_lt_of_le SS196.lt' sz_s218)
      have ne_s207_s218 : s207 ≠ s218 := Nat.ne_of_lt (Nat.lt_of_lt_of_le SS207.lt sz_s218)
      have ne_t207_s218 : t207 ≠ s218 := Nat.ne_of_lt (Nat.lt_of_lt_of_le SS207.lt' sz_s218)
      have ne_s196_t218 : s196 ≠ t218 := Nat.ne_of_lt (Nat.lt_of_lt_of_le SS196.lt sz_t218)
      have ne_t196_t218 : t196 ≠ t218 := Nat.ne_of_lt (Nat.lt_of_lt_of_le SS196.lt' sz_t218)
      have ne_s207_t218 : s207 ≠ t218 := Nat.ne_of_lt (Nat.lt_of_lt_of_le SS207.lt sz_t218)
      have ne_t207_t218 : t207 ≠ t218 := Nat.ne_of_lt (Nat.lt_of_lt_of_le SS207.lt' sz_t218)
      have ge_s218 : n0 ≤ s218 := Nat.le_trans (Old_le O) sz_s218
      have X_s218 := SS218.1
      have ne_t218_s218 : t218 ≠ s218 := ne_exa YB218 X_s218 (by decide)
      replace S_CS := Jvm.OwnK.Sta_keep S_CS K218
      replace O := O.keep K218 (all0)
      replace SS196 := SS196.keep K218 nin0 nin0
      replace X_s196 := X_s196.keep K218
      replace YB196 := YB196.keep K218
      replace FH196 := FH196.keep K218 nin0
      replace FZ196 := FZ196.keep K218 nin0
      replace SS207 := SS207.keep K218 nin0 nin0
      replace X_s207 := X_s207.keep K218
      replace YB207 := YB207.keep K218
      replace FH207 := FH207.keep K218 nin0
      replace FZ207 := FZ207.keep K218 nin0
      show Go Γ n0 _ T (mkF Γ.m 221 #[.val (.int p0), .val (.int p1), .val (.int p2), .val (.int p3), .val (.int p4), .val (.int las), .val (.int lbs), .val (.int lan), .val (.int lbn), .val (.int sa0), .val (.int sa1), .val (.int fS), .val (.int sb0), .val (.int sb1), .val (.int na0), .val (.int na1), .val (.int fN), .val (.int nb0), .val (.int nb1), .val (.ref s196), .val (.ref s207), .unset, .unset, .unset, .unset, .unset, .unset, .unset, .unset, .unset] [(.ref s218)])
      refine k_astore G X at_221 (pc' := 223) rfl rfl (l' := #[.val (.int p0), .val (.int p1), .val (.int p2), .val (.int p3), .val (.int p4), .val (.int las), .val (.int lbs), .val (.int lan), .val (.int lbn), .val (.int sa0), .val (.int sa1), .val (.int fS), .val (.int sb0), .val (.int sb1), .val (.int na0), .val (.int na1), .val (.int fN), .val (.int nb0), .val (.int nb1), .val (.ref s196), .val (.ref s207), .val (.ref s218), .unset, .unset, .unset, .unset, .unset, .unset, .unset, .unset]) rfl ?_
      refine k_iload G X at_223 (pc' := 225) rfl rfl ?_
      refine k_iload G X at_225 (pc' := 227) rfl rfl ?_
      refine k_iload G X at_227 (pc' := 229) rfl rfl ?_
      refine k_callS G X (argsL := [(.int lbn), (.int nb0), (.int nb1)]) (rest := []) rfl (w0 hw) (w1 hw) (w2 hw) (w3 hw) (by decide) (mk hw lbn nb0 nb1 cs l4 h218 n0 _ hn_lbn ge1_lbn le2_lbn rg_nb0 rg_nb1 O S_CS hcs) at_229 pd29 rfl (pc' := 232) rfl rfl (wd := 0) rfl (by decide) (by decide) (by decide) (by decide) (fun T h229 v sf229 X q => ?_)
      obtain ⟨s229, t229, k229, rfl, sz_s229, sz_t229, K229, SS229, YB229, FH229, FZ229, hms229⟩ := q
      replace X := W.only X hms229
      have ne_s196_s229 : s196 ≠ s229 := Nat.ne_of_lt (Nat.lt_of_lt_of_le SS196.lt sz_s229)
      have ne_t196_s229 : t196 ≠ s229 := Nat.ne_of_lt (Nat.lt_of_lt_of_le SS196.lt' sz_s229)
      have ne_s207_s229 : s207 ≠ s229 := Nat.ne_of_lt (Nat.lt_of_lt_of_le SS207.lt sz_s229)
      have ne_t207_s229 : t207 ≠ s229 := Nat.ne_of_lt (Nat.lt_of_lt_of_le SS207.lt' sz_s229)
      have ne_s218_s229 : s218 ≠ s229 := Nat.ne_of_lt (Nat.lt_of_lt_of_le SS218.lt sz_s229)
      have ne_t218_s229 : t218 ≠ s229 := Nat.ne_of_lt (Nat.lt_of_lt_of_le SS218.lt' sz_s229)
      have ne_s196_t229 : s196 ≠ t229 := Nat.ne_of_lt (Nat.lt_of_lt_of_le SS196.lt sz_t229)
      have ne_t196_t229 : t196 ≠ t229 := Nat.ne_of_lt (Nat.lt_of_lt_of_le SS196.lt' sz_t229)
      have ne_s207_t229 : s207 ≠ t229 := Nat.ne_of_lt (Nat.lt_of_lt_of_le SS207.lt sz_t229)
      have ne_t207_t229 : t207 ≠ t229 := Nat.ne_of_lt (Nat.lt_of_lt_of_le SS207.lt' sz_t229)
      have ne_s218_t229 : s218 ≠ t229 := Nat.ne_of_lt (Nat.lt_of_lt_of_le SS218.lt sz_t229)
      have ne_t218_t229 : t218 ≠ t229 := Nat.ne_of_lt (Nat.lt_of_lt_of_le SS218.lt' sz_t229)
      have ge_s229 : n0 ≤ s229 := Nat.le_trans (Old_le O) sz_s229
      have X_s229 := SS229.1
      have ne_t229_s229 : t229 ≠ s229 := ne_exa YB229 X_s229 (by decide)
      replace S_CS := Jvm.OwnK.Sta_keep S_CS K229
      replace O := O.keep K229 (all0)
      replace SS196 := SS196.keep K229 nin0 nin0
      replace X_s196 := X_s196.keep K229
      replace YB196 := YB196.keep K229
      replace FH196 := FH196.keep K229 nin0
      replace FZ196 := FZ196.keep K229 nin0
      replace SS207 := SS207.keep K229 nin0 nin0
      replace X_s207 := X_s207.keep K229
      replace YB207 := YB207.keep K229
      replace FH207 := FH207.keep K229 nin0
      replace FZ207 := FZ207.keep K229 nin0
      replace SS218 := SS218.keep K229 nin0 nin0
      replace X_s218 := X_s218.keep K229
      replace YB218 := YB218.keep K229
      replace FH218 := FH218.keep K229 nin0
      replace FZ218 := FZ218.keep K229 nin0
      show Go Γ n0 _ T (mkF Γ.m 232 #[.val (.int p0), .val (.int p1), .val (.int p2), .val (.int p3), .val (.int p4), .val (.int las), .val (.int lbs), .val (.int lan), .val (.int lbn), .val (.int sa0), .val (.int sa1), .val (.int fS), .val (.int sb0), .val (.int sb1), .val (.int na0), .val (.int na1), .val (.int fN), .val (.int nb0), .val (.int nb1), .val (.ref s196), .val (.ref s207), .val (.ref s218), .unset, .unset, .unset, .unset, .unset, .unset, .unset, .unset] [(.ref s229)])
      refine k_astore G X at_232 (pc' := 234) rfl rfl (l' := #[.val (.int p0), .val (.int p1), .val (.int p2), .val (.int p3), .val (.int p4), .val (.int las), .val (.int lbs), .val (.int lan), .val (.int lbn), .val (.int sa0), .val (.int sa1), .val (.int fS), .val (.int sb0), .val (.int sb1), .val (.int na0), .val (.int na1), .val (.int fN), .val (.int nb0), .val (.int nb1), .val (.ref s196), .val (.ref s207), .val (.ref s218), .val (.ref s229), .unset, .unset, .unset, .unset, .unset, .unset, .unset]) rfl ?_
      refine k_new G X (w34 hw) (w35 hw) (w36 hw) at_234 (pc' := 237) rfl (by decide) (by decide) (fun T h234 b234 s_b234 E234 X_b234 D234 X => ?_)
      have ne_s196_b234 : s196 ≠ b234 := Nat.ne_of_lt (Nat.lt_of_lt_of_eq X_s196.lt s_b234)
      have ne_t196_b234 : t196 ≠ b234 := Nat.ne_of_lt (Nat.lt_of_lt_of_eq YB196.lt s_b234)
      have ne_s207_b234 : s207 ≠ b234 := Nat.ne_of_lt (Nat.lt_of_lt_of_eq X_s207.lt s_b234)
      have ne_t207_b234 : t207 ≠ b234 := Nat.ne_of_lt (Nat.lt_of_lt_of_eq YB207.lt s_b234)
      have ne_s218_b234 : s218 ≠ b234 := Nat.ne_of_lt (Nat.lt_of_lt_of_eq X_s218.lt s_b234)
      have ne_t218_b234 : t218 ≠ b234 := Nat.ne_of_lt (Nat.lt_of_lt_of_eq YB218.lt s_b234)
      have ne_s229_b234 : s229 ≠ b234 := Nat.ne_of_lt (Nat.lt_of_lt_of_eq X_s229.lt s_b234)
      have ne_t229_b234 : t229 ≠ b234 := Nat.ne_of_lt (Nat.lt_of_lt_of_eq YB229.lt s_b234)
      have ge_b234 : n0 ≤ b234 := Nat.le_trans (Jvm.OwnK.Old_le O) (Nat.le_of_eq s_b234)
      replace O := O.ext E234
      replace S_CS := S_CS.ext E234
      replace SS196 := SS196.ext E234
      replace X_s196 := X_s196.ext E234
      replace YB196 := YB196.ext E234
      replace FH196 := FH196.ext E234
      replace FZ196 := FZ196.ext E234
      replace SS207 := SS207.ext E234
      replace X_s207 := X_s207.ext E234
      replace YB207 := YB207.ext E234
      replace FH207 := FH207.ext E234
      replace FZ207 := FZ207.ext E234
      replace SS218 := SS218.ext E234
      replace X_s218 := X_s218.ext E234
      replace YB218 := YB218.ext E234
      replace FH218 := FH218.ext E234
      replace FZ218 := FZ218.ext E234
      replace SS229 := SS229.ext E234
      replace X_s229 := X_s229.ext E234
      replace YB229 := YB229.ext E234
      replace FH229 := FH229.ext E234
      replace FZ229 := FZ229.ext E234
      have F_b234_schema : Fld Z h234 b234 "com/example/changeline/changeline/change/TableName" "schema" "Ljava/lang/String;" .null := D234 (Or.inr (w55 hw)) (ty := (.object "java/lang/String")) (by decide)
      have F_b234_name : Fld Z h234 b234 "com/example/changeline/changeline/change/TableName" "name" "Ljava/lang/String;" .null := D234 (Or.inr (w57 hw)) (ty := (.object "java/lang/String")) (by decide)
      have F_b234_text : Fld Z h234 b234 "com/example/changeline/changeline/change/TableName" "text" "Ljava/lang/String;" .null := D234 (Or.inr (w170 hw)) (ty := (.object "java/lang/String")) (by decide)
      have F_b234_hash : Fld Z h234 b234 "com/example/changeline/changeline/change/TableName" "hash" "I" (.int (0 : Int32)) := D234 (Or.inr (w200 hw)) (ty := .int) (by decide)
      refine k_dup G X at_237 (pc' := 238) rfl rfl ?_
      refine k_aload G X at_238 (pc' := 240) rfl rfl rfl ?_
      refine k_aload G X at_240 (pc' := 242) rfl rfl rfl ?_
      refine k_callI G X (argsL := [(.ref s196), (.ref s218)]) (rest := [(.ref b234)]) rfl rfl (w37 hw) (w38 hw) (w36 hw) (w39 hw) (by decide) (tn_i hw b234 s196 s218 t196 t218 k196 k218 l1 l3 las lan cs (fun i => (own2 sa0 sa1 i).toInt8.toInt32) (fun i => (own2 na0 na1 i).toInt8.toInt32) h234 n0 _ ⟨ge_b234, (List.mem_of_getElem? (i := 0) rfl)⟩ O X_b234 F_b234_schema F_b234_name F_b234_text F_b234_hash ⟨ge_s196, (List.mem_of_getElem? (i := 4) rfl)⟩ ⟨ge_s218, (List.mem_of_getElem? (i := 2) rfl)⟩ SS196 SS218 hn_las hn_lan YB196 YB218 FH196 FZ196 FH218 FZ218 m12_las m12_lan ne_s196_s218 S_CS hcs) at_242 pd30 rfl (pc' := 245) rfl rfl (wd := 1) rfl (by decide) (by decide) (by decide) (by decide) (fun T h242 v sf242 X q => ?_)
      replace X := W.drop X
      obtain ⟨rfl, K242, E_b234, FS_b234, FM_b234, SSa, SSb⟩ := q
      replace S_CS := Sta_keepL S_CS K242 (allS (Pln_exa X_b234) (allS (Pln_exa X_s196) (allS (Pln_exa X_s218) (all0))))
      replace O := O.keep K242 (allS ge_b234 (allS ge_s196 (allS ge_s218 (all0))))
      replace X_s196 := X_s196.keep K242
      replace YB196 := YB196.keep K242
      replace SS207 := SS207.keep K242 (by simp only [List.mem_cons, List.not_mem_nil, or_false, not_or]; exact ⟨ne_s207_b234, (Ne.symm ne_s196_s207), ne_s207_s218⟩) (by simp only [List.mem_cons, List.not_mem_nil, or_false, not_or]; exact ⟨ne_t207_b234, (Ne.symm ne_s196_t207), ne_t207_s218⟩)
      replace X_s207 := X_s207.keep K242
      replace YB207 := YB207.keep K242
      replace FH207 := FH207.keep K242 (by simp only [List.mem_cons, List.not_mem_nil, or_false, not_or]; exact ⟨ne_s207_b234, (Ne.symm ne_s196_s207), ne_s207_s218⟩)
      replace FZ207 := FZ207.keep K242 (by simp only [List.mem_cons, List.not_mem_nil, or_false, not_or]; exact ⟨ne_s207_b234, (Ne.symm ne_s196_s207), ne_s207_s218⟩)
      replace X_s218 := X_s218.keep K242
      replace YB218 := YB218.keep K242
      replace SS229 := SS229.keep K242 (by simp only [List.mem_cons, List.not_mem_nil, or_false, not_or]; exact ⟨ne_s229_b234, (Ne.symm ne_s196_s229), (Ne.symm ne_s218_s229)⟩) (by simp only [List.mem_cons, List.not_mem_nil, or_false, not_or]; exact ⟨ne_t229_b234, (Ne.symm ne_s196_t229), (Ne.symm ne_s218_t229)⟩)
      replace X_s229 := X_s229.keep K242
      replace YB229 := YB229.keep K242
      replace FH229 := FH229.keep K242 (by simp only [List.mem_cons, List.not_mem_nil, or_false, not_or]; exact ⟨ne_s229_b234, (Ne.symm ne_s196_s229), (Ne.symm ne_s218_s229)⟩)
      replace FZ229 := FZ229.keep K242 (by simp only [List.mem_cons, List.not_mem_nil, or_false, not_or]; exact ⟨ne_s229_b234, (Ne.symm ne_s196_s229), (Ne.symm ne_s218_s229)⟩)
      replace X_b234 := X_b234.keep K242
      have SS196 := SSa; have SS218 := SSb
      show Go Γ n0 _ T (mkF Γ.m 245 #[.val (.int p0), .val (.int p1), .val (.int p2), .val (.int p3), .val (.int p4), .val (.int las), .val (.int lbs), .val (.int lan), .val (.int lbn), .val (.int sa0), .val (.int sa1), .val (.int fS), .val (.int sb0), .val (.int sb1), .val (.int na0), .val (.int na1), .val (.int fN), .val (.int nb0), .val (.int nb1), .val (.ref s196), .val (.ref s207), .val (.ref s218), .val (.ref s229), .unset, .unset, .unset, .unset, .unset, .unset, .unset] [(.ref b234)])
      refine k_astore G X at_245 (pc' := 247) rfl rfl (l' := #[.val (.int p0), .val (.int p1), .val (.int p2), .val (.int p3), .val (.int p4), .val (.int las), .val (.int lbs), .val (.int lan), .val (.int lbn), .val (.int sa0), .val (.int sa1), .val (.int fS), .val (.int sb0), .val (.int sb1), .val (.int na0), .val (.int na1), .val (.int fN), .val (.int nb0), .val (.int nb1), .val (.ref s196), .val (.ref s207), .val (.ref s218), .val (.ref s229), .val (.ref b234), .unset, .unset, .unset, .unset, .unset, .unset]) rfl ?_
      refine k_new G X (w34 hw) (w35 hw) (w36 hw) at_247 (pc' := 250) rfl (by decide) (by decide) (fun T h247 b247 s_b247 E247 X_b247 D247 X => ?_)
      have ne_s196_b247 : s196 ≠ b247 := Nat.ne_of_lt (Nat.lt_of_lt_of_eq X_s196.lt s_b247)
      have ne_t196_b247 : t196 ≠ b247 := Nat.ne_of_lt (Nat.lt_of_lt_of_eq YB196.lt s_b247)
      have ne_s207_b247 : s207 ≠ b247 := Nat.ne_of_lt (Nat.lt_of_lt_of_eq X_s207.lt s_b247)
      have ne_t207_b247 : t207 ≠ b247 := Nat.ne_of_lt (Nat.lt_of_lt_of_eq YB207.lt s_b247)
      have ne_s218_b247 : s218 ≠ b247 := Nat.ne_of_lt (Nat.lt_of_lt_of_eq X_s218.lt s_b247)
      have ne_t218_b247 : t218 ≠ b247 := Nat.ne_of_lt (Nat.lt_of_lt_of_eq YB218.lt s_b247)
      have ne_s229_b247 : s229 ≠ b247 := Nat.ne_of_lt (Nat.lt_of_lt_of_eq X_s229.lt s_b247)
      have ne_t229_b247 : t229 ≠ b247 := Nat.ne_of_lt (Nat.lt_of_lt_of_eq YB229.lt s_b247)
      have ne_b234_b247 : b234 ≠ b247 := Nat.ne_of_lt (Nat.lt_of_lt_of_eq X_b234.lt s_b247)
      have ge_b247 : n0 ≤ b247 := Nat.le_trans (Jvm.OwnK.Old_le O) (Nat.le_of_eq s_b247)
      replace O := O.ext E247
      replace S_CS := S_CS.ext E247
      replace X_s196 := X_s196.ext E247
      replace YB196 := YB196.ext E247
      replace SS207 := SS207.ext E247
      replace X_s207 := X_s207.ext E247
      replace YB207 := YB207.ext E247
      replace FH207 := FH207.ext E247
      replace FZ207 := FZ207.ext E247
      replace X_s218 := X_s218.ext E247
      replace YB218 := YB218.ext E247
      replace SS229 := SS229.ext E247
      replace X_s229 := X_s229.ext E247
      replace YB229 := YB229.ext E247
      replace FH229 := FH229.ext E247
      replace FZ229 := FZ229.ext E247
      replace X_b234 := X_b234.ext E247
      replace SS196 := SS196.ext E247
      replace SS218 := SS218.ext E247
      replace FS_b234 := FS_b234.ext E247
      replace FM_b234 := FM_b234.ext E247
      have F_b247_schema : Fld Z h247 b247 "com/example/changeline/changeline/change/TableName" "schema" "Ljava/lang/String;" .null := D247 (Or.inr (w55 hw)) (ty := (.object "java/lang/String")) (by decide)
      have F_b247_name : Fld Z h247 b247 "com/example/changeline/changeline/change/TableName" "name" "Ljava/lang/String;" .null := D247 (Or.inr (w57 hw)) (ty := (.object "java/lang/String")) (by decide)
      have F_b247_text : Fld Z h247 b247 "com/example/changeline/changeline/change/TableName" "text" "Ljava/lang/String;" .null := D247 (Or.inr (w170 hw)) (ty := (.object "java/lang/String")) (by decide)
      have F_b247_hash : Fld Z h247 b247 "com/example/changeline/changeline/change/TableName" "hash" "I" (.int (0 : Int32)) := D247 (Or.inr (w200 hw)) (ty := .int) (by decide)
      refine k_dup G X at_250 (pc' := 251) rfl rfl ?_
      refine k_aload G X at_251 (pc' := 253) rfl rfl rfl ?_
      refine k_aload G X at_253 (pc' := 255) rfl rfl rfl ?_
      refine k_callI G X (argsL := [(.ref s207), (.ref s229)]) (rest := [(.ref b247)]) rfl rfl (w37 hw) (w38 hw) (w36 hw) (w39 hw) (by decide) (tn_i hw b247 s207 s229 t207 t229 k207 k229 l2 l4 lbs lbn cs (fun i => (own2 sb0 sb1 i).toInt8.toInt32) (fun i => (own2 nb0 nb1 i).toInt8.toInt32) h247 n0 _ ⟨ge_b247, (List.mem_of_getElem? (i := 0) rfl)⟩ O X_b247 F_b247_schema F_b247_name F_b247_text F_b247_hash ⟨ge_s207, (List.mem_of_getElem? (i := 4) rfl)⟩ ⟨ge_s229, (List.mem_of_getElem? (i := 2) rfl)⟩ SS207 SS229 hn_lbs hn_lbn YB207 YB229 FH207 FZ207 FH229 FZ229 m12_lbs m12_lbn ne_s207_s229 S_CS hcs) at_255 pd30 rfl (pc' := 258) rfl rfl (wd := 1) rfl (by decide) (by decide) (by decide) (by decide) (fun T h255 v sf255 X q => ?_)
      replace X := W.drop X
      obtain ⟨rfl, K255, E_b247, FS_b247, FM_b247, SSa, SSb⟩ := q
      replace S_CS := Sta_keepL S_CS K255 (allS (Pln_exa X_b247) (allS (Pln_exa X_s207) (allS (Pln_exa X_s229) (all0))))
      replace O := O.keep K255 (allS ge_b247 (allS ge_s207 (allS ge_s229 (all0))))
      replace X_s196 := X_s196.keep K255
      replace YB196 := YB196.keep K255
      replace X_s207 := X_s207.keep K255
      replace YB207 := YB207.keep K255
      replace X_s218 := X_s218.keep K255
      replace YB218 := YB218.keep K255
      replace X_s229 := X_s229.keep K255
      replace YB229 := YB229.keep K255
      replace X_b234 := X_b234.keep K255
      replace SS196 := SS196.keep K255 (by simp only [List.mem_cons, List.not_mem_nil, or_false, not_or]; exact ⟨ne_s196_b247, ne_s196_s207, ne_s196_s229⟩) (by simp only [List.mem_cons, List.not_mem_nil, or_false, not_or]; exact ⟨ne_t196_b247, ne_t196_s207, ne_t196_s229⟩)
      replace SS218 := SS218.keep K255 (by simp only [List.mem_cons, List.not_mem_nil, or_false, not_or]; exact ⟨ne_s218_b247, (Ne.symm ne_s207_s218), ne_s218_s229⟩) (by simp only [List.mem_cons, List.not_mem_nil, or_false, not_or]; exact ⟨ne_t218_b247, (Ne.symm ne_s207_t218), ne_t218_s229⟩)
      replace FS_b234 := FS_b234.keep K255 (by simp only [List.mem_cons, List.not_mem_nil, or_false, not_or]; exact ⟨ne_b234_b247, (Ne.symm ne_s207_b234), (Ne.symm ne_s229_b234)⟩)
      replace FM_b234 := FM_b234.keep K255 (by simp only [List.mem_cons, List.not_mem_nil, or_false, not_or]; exact ⟨ne_b234_b247, (Ne.symm ne_s207_b234), (Ne.symm ne_s229_b234)⟩)
      replace X_b247 := X_b247.keep K255
      have SS207 := SSa; have SS229 := SSb
      show Go Γ n0 _ T (mkF Γ.m 258 #[.val (.int p0), .val (.int p1), .val (.int p2), .val (.int p3), .val (.int p4), .val (.int las), .val (.int lbs), .val (.int lan), .val (.int lbn), .val (.int sa0), .val (.int sa1), .val (.int fS), .val (.int sb0), .val (.int sb1), .val (.int na0), .val (.int na1), .val (.int fN), .val (.int nb0), .val (.int nb1), .val (.ref s196), .val (.ref s207), .val (.ref s218), .val (.ref s229), .val (.ref b234), .unset, .unset, .unset, .unset, .unset, .unset] [(.ref b247)])
      refine k_astore G X at_258 (pc' := 260) rfl rfl (l' := #[.val (.int p0), .val (.int p1), .val (.int p2), .val (.int p3), .val (.int p4), .val (.int las), .val (.int lbs), .val (.int lan), .val (.int lbn), .val (.int sa0), .val (.int sa1), .val (.int fS), .val (.int sb0), .val (.int sb1), .val (.int na0), .val (.int na1), .val (.int fN), .val (.int nb0), .val (.int nb1), .val (.ref s196), .val (.ref s207), .val (.ref s218), .val (.ref s229), .val (.ref b234), .val (.ref b247), .unset, .unset, .unset, .unset, .unset]) rfl ?_
      refine k_iload G X at_260 (pc' := 262) rfl rfl ?_
      refine k_iconst G X at_262 (pc' := 263) rfl (z := (3 : Int32)) (by decide) ?_
      refine k_iand G X at_263 (pc' := 264) rfl rfl ?_
      have rg_kk := and_rng p4 (m := 3) 3 rfl (by decide)
      obtain ⟨kk, q_kk⟩ : ∃ z, (p4 &&& (3 : Int32)) = z := ⟨_, rfl⟩
      rw [q_kk] at rg_kk ⊢
      refine k_istore G X at_264 (pc' := 266) rfl (l' := #[.val (.int p0), .val (.int p1), .val (.int p2), .val (.int p3), .val (.int p4), .val (.int las), .val (.int lbs), .val (.int lan), .val (.int lbn), .val (.int sa0), .val (.int sa1), .val (.int fS), .val (.int sb0), .val (.int sb1), .val (.int na0), .val (.int na1), .val (.int fN), .val (.int nb0), .val (.int nb1), .val (.ref s196), .val (.ref s207), .val (.ref s218), .val (.ref s229), .val (.ref b234), .val (.ref b247), .val (.int kk), .unset, .unset, .unset, .unset]) rfl ?_
      refine k_iload G X at_266 (pc' := 268) rfl rfl ?_
      refine k_if_ne G X at_268 (pc' := 278) rfl (by decide) (pc'' := 271) rfl (fun c268 => ?_) (fun c268 => ?_)
      · refine k_iload G X at_278 (pc' := 280) rfl rfl ?_
        refine k_iconst G X at_280 (pc' := 281) rfl (z := (1 : Int32)) (by decide) ?_
        refine k_icmp_ne G X at_281 (pc' := 290) rfl (by decide) (pc'' := 284) rfl (fun c281 => ?_) (fun c281 => ?_)
        · refine k_iload G X at_290 (pc' := 292) rfl rfl ?_
          refine k_iconst G X at_292 (pc' := 293) rfl (z := (2 : Int32)) (by decide) ?_
          refine k_icmp_ne G X at_293 (pc' := 303) rfl (by decide) (pc'' := 296) rfl (fun c293 => ?_) (fun c293 => ?_)
          · obtain rfl : kk = (3 : Int32) := of_toInt (by have h0 : kk.toInt ≠ 0 := fun q => c268 (of_toInt q); have h1 : kk.toInt ≠ 1 := fun q => c281 (of_toInt q); have h2 : kk.toInt ≠ 2 := fun q => c293 (of_toInt q); rw [show (3 : Int32).toInt = 3 from rfl]; omega)
            refine k_aload G X at_303 (pc' := 305) rfl rfl rfl ?_
            refine k_astore G X at_305 (pc' := 307) rfl rfl (l' := #[.val (.int p0), .val (.int p1), .val (.int p2), .val (.int p3), .val (.int p4), .val (.int las), .val (.int lbs), .val (.int lan), .val (.int lbn), .val (.int sa0), .val (.int sa1), .val (.int fS), .val (.int sb0), .val (.int sb1), .val (.int na0), .val (.int na1), .val (.int fN), .val (.int nb0), .val (.int nb1), .val (.ref s196), .val (.ref s207), .val (.ref s218), .val (.ref s229), .val (.ref b234), .val (.ref b247), .val (.int (3 : Int32)), .val (.ref b234), .unset, .unset, .unset]) rfl ?_
            have J339 : ∀ (T : State) (rS : Int32), ((rS = 1 ∧ (l1 = l2 ∧ (l1 < 1 ∨ sa0 = sb0) ∧ (l1 < 2 ∨ sa1 = sb1))) ∨ (rS = 0 ∧ ¬ (l1 = l2 ∧ (l1 < 1 ∨ sa0 = sb0) ∧ (l1 < 2 ∨ sa1 = sb1)))) → W Γ n0 T h255 36 214 (b247 :: b234 :: s229 :: s218 :: s207 :: s196 :: []) → Go Γ n0 (fun v h sf => v = some (.int 1)) T (mkF Γ.m 339 #[.val (.int p0), .val (.int p1), .val (.int p2), .val (.int p3), .val (.int p4), .val (.int las), .val (.int lbs), .val (.int lan), .val (.int lbn), .val (.int sa0), .val (.int sa1), .val (.int fS), .val (.int sb0), .val (.int sb1), .val (.int na0), .val (.int na1), .val (.int fN), .val (.int nb0), .val (.int nb1), .val (.ref s196), .val (.ref s207), .val (.ref s218), .val (.ref s229), .val (.ref b234), .val (.ref b247), .val (.int (3 : Int32)), .val (.ref b234), .unset, .unset, .unset] [(.int rS)]) := by
              intro T rS hrS X
              refine k_istore G X at_339 (pc' := 341) rfl (l' := #[.val (.int p0), .val (.int p1), .val (.int p2), .val (.int p3), .val (.int p4), .val (.int las), .val (.int lbs), .val (.int lan), .val (.int lbn), .val (.int sa0), .val (.int sa1), .val (.int fS), .val (.int sb0), .val (.int sb1), .val (.int na0), .val (.int na1), .val (.int fN), .val (.int nb0), .val (.int nb1), .val (.ref s196), .val (.ref s207), .val (.ref s218), .val (.ref s229), .val (.ref b234), .val (.ref b247), .val (.int (3 : Int32)), .val (.ref b234), .val (.int rS), .unset, .unset]) rfl ?_
              have J373 : ∀ (T : State) (rN : Int32), ((rN = 1 ∧ (l3 = l4 ∧ (l3 < 1 ∨ na0 = nb0) ∧ (l3 < 2 ∨ na1 = nb1))) ∨ (rN = 0 ∧ ¬ (l3 = l4 ∧ (l3 < 1 ∨ na0 = nb0) ∧ (l3 < 2 ∨ na1 = nb1)))) → W Γ n0 T h255 36 214 (b247 :: b234 :: s229 :: s218 :: s207 :: s196 :: []) → Go Γ n0 (fun v h sf => v = some (.int 1)) T (mkF Γ.m 373 #[.val (.int p0), .val (.int p1), .val (.int p2), .val (.int p3), .val (.int p4), .val (.int las), .val (.int lbs), .val (.int lan), .val (.int lbn), .val (.int sa0), .val (.int sa1), .val (.int fS), .val (.int sb0), .val (.int sb1), .val (.int na0), .val (.int na1), .val (.int fN), .val (.int nb0), .val (.int nb1), .val (.ref s196), .val (.ref s207), .val (.ref s218), .val (.ref s229), .val (.ref b234), .val (.ref b247), .val (.int (3 : Int32)), .val (.ref b234), .val (.int rS), .unset, .unset] [(.int rN)]) := by
                intro T rN hrN X
                refine k_istore G X at_373 (pc' := 375) rfl (l' := #[.val (.int p0), .val (.int p1), .val (.int p2), .val (.int p3), .val (.int p4), .val (.int las), .val (.int lbs), .val (.int lan), .val (.int lbn), .val (.int sa0), .val (.int sa1), .val (.int fS), .val (.int sb0), .val (.int sb1), .val (.int na0), .val (.int na1), .val (.int fN), .val (.int nb0), .val (.int nb1), .val (.ref s196), .val (.ref s207), .val (.ref s218), .val (.ref s229), .val (.ref b234), .val (.ref b247), .val (.int (3 : Int32)), .val (.ref b234), .val (.int rS), .val (.int rN), .unset]) rfl ?_
                refine k_iload G X at_375 (pc' := 377) rfl rfl ?_
                refine k_if_ne G X at_377 (pc' := 400) rfl (by decide) (pc'' := 380) rfl (fun c377 => ?_) (fun c377 => (absurd c377 (by decide)))
                refine k_iload G X at_400 (pc' := 402) rfl rfl ?_
                refine k_iconst G X at_402 (pc' := 403) rfl (z := (3 : Int32)) (by decide) ?_
                refine k_icmp_ne G X at_403 (pc' := 410) rfl (by decide) (pc'' := 406) rfl (fun c403 => (absurd c403 (by decide))) (fun c403 => ?_)
                refine k_iconst G X at_406 (pc' := 407) rfl (z := (1 : Int32)) (by decide) ?_
                refine k_goto G X at_407 (by decide) (pc' := 411) rfl ?_
                refine k_istore G X at_411 (pc' := 413) rfl (l' := #[.val (.int p0), .val (.int p1), .val (.int p2), .val (.int p3), .val (.int p4), .val (.int las), .val (.int lbs), .val (.int lan), .val (.int lbn), .val (.int sa0), .val (.int sa1), .val (.int fS), .val (.int sb0), .val (.int sb1), .val (.int na0), .val (.int na1), .val (.int fN), .val (.int nb0), .val (.int nb1), .val (.ref s196), .val (.ref s207), .val (.ref s218), .val (.ref s229), .val (.ref b234), .val (.ref b247), .val (.int (3 : Int32)), .val (.ref b234), .val (.int rS), .val (.int rN), .val (.int (1 : Int32))]) rfl ?_
                refine k_aload G X at_413 (pc' := 415) rfl rfl rfl ?_
                refine k_aload G X at_415 (pc' := 417) rfl rfl rfl ?_
                refine k_callV G X (argsL := [(.ref b234)]) (rest := []) rfl X_b234 (w201 hw) (w202 hw) (nf_sel (w204 hw)) (w204 hw) (w203 hw) (w36 hw) (w205 hw) (by decide) (tn_s hw b234 s196 s218 h255 n0 _ X_b234 FS_b234 FM_b234 X_s196 X_s218) at_417 pd28 rfl (pc' := 420) rfl rfl (wd := 0) rfl (by decide) (by decide) (by decide) (by decide) (fun T h417 v sf417 X q => ?_)
                replace X := W.drop X
                obtain ⟨rfl, e417⟩ := q
                replace X := X.eq e417
                show Go Γ n0 _ T (mkF Γ.m 420 #[.val (.int p0), .val (.int p1), .val (.int p2), .val (.int p3), .val (.int p4), .val (.int las), .val (.int lbs), .val (.int lan), .val (.int lbn), .val (.int sa0), .val (.int sa1), .val (.int fS), .val (.int sb0), .val (.int sb1), .val (.int na0), .val (.int na1), .val (.int fN), .val (.int nb0), .val (.int nb1), .val (.ref s196), .val (.ref s207), .val (.ref s218), .val (.ref s229), .val (.ref b234), .val (.ref b247), .val (.int (3 : Int32)), .val (.ref b234), .val (.int rS), .val (.int rN), .val (.int (1 : Int32))] [(.int (1 : Int32))])
                refine k_iload G X at_420 (pc' := 422) rfl rfl ?_
                refine k_icmp_ne G X at_422 (pc' := 429) rfl (by decide) (pc'' := 425) rfl (fun c422 => (absurd c422 (by decide))) (fun c422 => ?_)
                refine k_iconst G X at_425 (pc' := 426) rfl (z := (1 : Int32)) (by decide) ?_
                refine k_goto G X at_426 (by decide) (pc' := 430) rfl ?_
                refine k_retb G X at_430 (t := .boolean) rfl (by simp) rfl ?_ (by decide) (by decide)
                rfl
              refine k_iload G X at_341 (pc' := 343) rfl rfl ?_
              refine k_iload G X at_343 (pc' := 345) rfl rfl ?_
              refine k_icmp_ne G X at_345 (pc' := 372) rfl (by decide) (pc'' := 348) rfl (fun c345 => ?_) (fun c345 => ?_)
              · refine k_iconst G X at_372 (pc' := 373) rfl (z := (0 : Int32)) (by decide) ?_
                exact J373 T (0 : Int32) (Or.inr ⟨rfl, fun q => by first | exact c345 (of_toInt (by rw [hn_lan, hn_lbn, q.1])) | exact q.2.1.elim (fun h => by omega) c352 | exact q.2.2.elim (fun h => c358 (of_toInt (by rw [hn_lan, show (1 : Int32).toInt = 1 from rfl]; omega))) c365⟩) X
              · refine k_iload G X at_348 (pc' := 350) rfl rfl ?_
                refine k_iload G X at_350 (pc' := 352) rfl rfl ?_
                refine k_icmp_ne G X at_352 (pc' := 372) rfl (by decide) (pc'' := 355) rfl (fun c352 => ?_) (fun c352 => ?_)
                · refine k_iconst G X at_372 (pc' := 373) rfl (z := (0 : Int32)) (by decide) ?_
                  exact J373 T (0 : Int32) (Or.inr ⟨rfl, fun q => by first | exact c345 (of_toInt (by rw [hn_lan, hn_lbn, q.1])) | exact q.2.1.elim (fun h => by omega) c352 | exact q.2.2.elim (fun h => c358 (of_toInt (by rw [hn_lan, show (1 : Int32).toInt = 1 from rfl]; omega))) c365⟩) X
                · refine k_iload G X at_355 (pc' := 357) rfl rfl ?_
                  refine k_iconst G X at_357 (pc' := 358) rfl (z := (1 : Int32)) (by decide) ?_
                  refine k_icmp_eq G X at_358 (pc' := 368) rfl (by decide) (pc'' := 361) rfl (fun c358 => ?_) (fun c358 => ?_)
                  · refine k_iconst G X at_368 (pc' := 369) rfl (z := (1 : Int32)) (by decide) ?_
                    refine k_goto G X at_369 (by decide) (pc' := 373) rfl ?_
                    exact J373 T (1 : Int32) (Or.inl ⟨rfl, by have := congrArg Int32.toInt c345; omega, Or.inr c352, by first | exact Or.inr c365 | exact Or.inl (by have := congrArg Int32.toInt c358; rw [show (1 : Int32).toInt = 1 from rfl] at this; omega)⟩) X
                  · refine k_iload G X at_361 (pc' := 363) rfl rfl ?_
                    refine k_iload G X at_363 (pc' := 365) rfl rfl ?_
                    refine k_icmp_ne G X at_365 (pc' := 372) rfl (by decide) (pc'' := 368) rfl (fun c365 => ?_) (fun c365 => ?_)
                    · refine k_iconst G X at_372 (pc' := 373) rfl (z := (0 : Int32)) (by decide) ?_
                      exact J373 T (0 : Int32) (Or.inr ⟨rfl, fun q => by first | exact c345 (of_toInt (by rw [hn_lan, hn_lbn, q.1])) | exact q.2.1.elim (fun h => by omega) c352 | exact q.2.2.elim (fun h => c358 (of_toInt (by rw [hn_lan, show (1 : Int32).toInt = 1 from rfl]; omega))) c365⟩) X
                    · refine k_iconst G X at_368 (pc' := 369) rfl (z := (1 : Int32)) (by decide) ?_
                      refine k_goto G X at_369 (by decide) (pc' := 373) rfl ?_
                      exact J373 T (1 : Int32) (Or.inl ⟨rfl, by have := congrArg Int32.toInt c345; omega, Or.inr c352, by first | exact Or.inr c365 | exact Or.inl (by have := congrArg Int32.toInt c358; rw [show (1 : Int32).toInt = 1 from rfl] at this; omega)⟩) X
            refine k_iload G X at_307 (pc' := 309) rfl rfl ?_
            refine k_iload G X at_309 (pc' := 311) rfl rfl ?_
            refine k_icmp_ne G X at_311 (pc' := 338) rfl (by decide) (pc'' := 314) rfl (fun c311 => ?_) (fun c311 => ?_)
            · refine k_iconst G X at_338 (pc' := 339) rfl (z := (0 : Int32)) (by decide) ?_
              exact J339 T (0 : Int32) (Or.inr ⟨rfl, fun q => by first | exact c311 (of_toInt (by rw [hn_las, hn_lbs, q.1])) | exact q.2.1.elim (fun h => by omega) c318 | exact q.2.2.elim (fun h => c324 (of_toInt (by rw [hn_las, show (1 : Int32).toInt = 1 from rfl]; omega))) c331⟩) X
            · refine k_iload G X at_314 (pc' := 316) rfl rfl ?_
              refine k_iload G X at_316 (pc' := 318) rfl rfl ?_
              refine k_icmp_ne G X at_318 (pc' := 338) rfl (by decide) (pc'' := 321) rfl (fun c318 => ?_) (fun c318 => ?_)
              · refine k_iconst G X at_338 (pc' := 339) rfl (z := (0 : Int32)) (by decide) ?_
                exact J339 T (0 : Int32) (Or.inr ⟨rfl, fun q => by first | exact c311 (of_toInt (by rw [hn_las, hn_lbs, q.1])) | exact q.2.1.elim (fun h => by omega) c318 | exact q.2.2.elim (fun h => c324 (of_toInt (by rw [hn_las, show (1 : Int32).toInt = 1 from rfl]; omega))) c331⟩) X
              · refine k_iload G X at_321 (pc' := 323) rfl rfl ?_
                refine k_iconst G X at_323 (pc' := 324) rfl (z := (1 : Int32)) (by decide) ?_
                refine k_icmp_eq G X at_324 (pc' := 334) rfl (by decide) (pc'' := 327) rfl (fun c324 => ?_) (fun c324 => ?_)
                · refine k_iconst G X at_334 (pc' := 335) rfl (z := (1 : Int32)) (by decide) ?_
                  refine k_goto G X at_335 (by decide) (pc' := 339) rfl ?_
                  exact J339 T (1 : Int32) (Or.inl ⟨rfl, by have := congrArg Int32.toInt c311; omega, Or.inr c318, by first | exact Or.inr c331 | exact Or.inl (by have := congrArg Int32.toInt c324; rw [show (1 : Int32).toInt = 1 from rfl] at this; omega)⟩) X
                · refine k_iload G X at_327 (pc' := 329) rfl rfl ?_
                  refine k_iload G X at_329 (pc' := 331) rfl rfl ?_
                  refine k_icmp_ne G X at_331 (pc' := 338) rfl (by decide) (pc'' := 334) rfl (fun c331 => ?_) (fun c331 => ?_)
                  · refine k_iconst G X at_338 (pc' := 339) rfl (z := (0 : Int32)) (by decide) ?_
                    exact J339 T (0 : Int32) (Or.inr ⟨rfl, fun q => by first | exact c311 (of_toInt (by rw [hn_las, hn_lbs, q.1])) | exact q.2.1.elim (fun h => by omega) c318 | exact q.2.2.elim (fun h => c324 (of_toInt (by rw [hn_las, show (1 : Int32).toInt = 1 from rfl]; omega))) c331⟩) X
                  · refine k_iconst G X at_334 (pc' := 335) rfl (z := (1 : Int32)) (by decide) ?_
                    refine k_goto G X at_335 (by decide) (pc' := 339) rfl ?_
                    exact J339 T (1 : Int32) (Or.inl ⟨rfl, by have := congrArg Int32.toInt c311; omega, Or.inr c318, by first | exact Or.inr c331 | exact Or.inl (by have := congrArg Int32.toInt c324; rw [show (1 : Int32).toInt = 1 from rfl] at this; omega)⟩) X
          · subst c293
            refine k_aload G X at_296 (pc' := 298) rfl rfl rfl ?_
            refine k_astore G X at_298 (pc' := 300) rfl rfl (l' := #[.val (.int p0), .val (.int p1), .val (.int p2), .val (.int p3), .val (.int p4), .val (.int las), .val (.int lbs), .val (.int lan), .val (.int lbn), .val (.int sa0), .val (.int sa1), .val (.int fS), .val (.int sb0), .val (.int sb1), .val (.int na0), .val (.int na1), .val (.int fN), .val (.int nb0), .val (.int nb1), .val (.ref s196), .val (.ref s207), .val (.ref s218), .val (.ref s229), .val (.ref b234), .val (.ref b247), .val (.int (2 : Int32)), .val (.ref s196), .unset, .unset, .unset]) rfl ?_
            refine k_goto G X at_300 (by decide) (pc' := 307) rfl ?_
            have J339 : ∀ (T : State) (rS : Int32), ((rS = 1 ∧ (l1 = l2 ∧ (l1 < 1 ∨ sa0 = sb0) ∧ (l1 < 2 ∨ sa1 = sb1))) ∨ (rS = 0 ∧ ¬ (l1 = l2 ∧ (l1 < 1 ∨ sa0 = sb0) ∧ (l1 < 2 ∨ sa1 = sb1)))) → W Γ n0 T h255 36 214 (b247 :: b234 :: s229 :: s218 :: s207 :: s196 :: []) → Go Γ n0 (fun v h sf => v = some (.int 1)) T (mkF Γ.m 339 #[.val (.int p0), .val (.int p1), .val (.int p2), .val (.int p3), .val (.int p4), .val (.int las), .val (.int lbs), .val (.int lan), .val (.int lbn), .val (.int sa0), .val (.int sa1), .val (.int fS), .val (.int sb0), .val (.int sb1), .val (.int na0), .val (.int na1), .val (.int fN), .val (.int nb0), .val (.int nb1), .val (.ref s196), .val (.ref s207), .val (.ref s218), .val (.ref s229), .val (.ref b234), .val (.ref b247), .val (.int (2 : Int32)), .val (.ref s196), .unset, .unset, .unset] [(.int rS)]) := by
              intro T rS hrS X
              refine k_istore G X at_339 (pc' := 341) rfl (l' := #[.val (.int p0), .val (.int p1), .val (.int p2), .val (.int p3), .val (.int p4), .val (.int las), .val (.int lbs), .val (.int lan), .val (.int lbn), .val (.int sa0), .val (.int sa1), .val (.int fS), .val (.int sb0), .val (.int sb1), .val (.int na0), .val (.int na1), .val (.int fN), .val (.int nb0), .val (.int nb1), .val (.ref s196), .val (.ref s207), .val (.ref s218), .val (.ref s229), .val (.ref b234), .val (.ref b247), .val (.int (2 : Int32)), .val (.ref s196), .val (.int rS), .unset, .unset]) rfl ?_
              have J373 : ∀ (T : State) (rN : Int32), ((rN = 1 ∧ (l3 = l4 ∧ (l3 < 1 ∨ na0 = nb0) ∧ (l3 < 2 ∨ na1 = nb1))) ∨ (rN = 0 ∧ ¬ (l3 = l4 ∧ (l3 < 1 ∨ na0 = nb0) ∧ (l3 < 2 ∨ na1 = nb1)))) → W Γ n0 T h255 36 214 (b247 :: b234 :: s229 :: s218 :: s207 :: s196 :: []) → Go Γ n0 (fun v h sf => v = some (.int 1)) T (mkF Γ.m 373 #[.val (.int p0), .val (.int p1), .val (.int p2), .val (.int p3), .val (.int p4), .val (.int las), .val (.int lbs), .val (.int lan), .val (.int lbn), .val (.int sa0), .val (.int sa1), .val (.int fS), .val (.int sb0), .val (.int sb1), .val (.int na0), .val (.int na1), .val (.int fN), .val (.int nb0), .val (.int nb1), .val (.ref s196), .val (.ref s207), .val (.ref s218), .val (.ref s229), .val (.ref b234), .val (.ref b247), .val (.int (2 : Int32)), .val (.ref s196), .val (.int rS), .unset, .unset] [(.int rN)]) := by
                intro T rN hrN X
                refine k_istore G X at_373 (pc' := 375) rfl (l' := #[.val (.int p0), .val (.int p1), .val (.int p2), .val (.int p3), .val (.int p4), .val (.int las), .val (.int lbs), .val (.int lan), .val (.int lbn), .val (.int sa0), .val (.int sa1), .val (.int fS), .val (.int sb0), .val (.int sb1), .val (.int na0), .val (.int na1), .val (.int fN), .val (.int nb0), .val (.int nb1), .val (.ref s196), .val (.ref s207), .val (.ref s218), .val (.ref s229), .val (.ref b234), .val (.ref b247), .val (.int (2 : Int32)), .val (.ref s196), .val (.int rS), .val (.int rN), .unset]) rfl ?_
                refine k_iload G X at_375 (pc' := 377) rfl rfl ?_
                refine k_if_ne G X at_377 (pc' := 400) rfl (by decide) (pc'' := 380) rfl (fun c377 => ?_) (fun c377 => (absurd c377 (by decide)))
                refine k_iload G X at_400 (pc' := 402) rfl rfl ?_
                refine k_iconst G X at_402 (pc' := 403) rfl (z := (3 : Int32)) (by decide) ?_
                refine k_icmp_ne G X at_403 (pc' := 410) rfl (by decide) (pc'' := 406) rfl (fun c403 => ?_) (fun c403 => (absurd c403 (by decide)))
                refine k_iconst G X at_410 (pc' := 411) rfl (z := (0 : Int32)) (by decide) ?_
                refine k_istore G X at_411 (pc' := 413) rfl (l' := #[.val (.int p0), .val (.int p1), .val (.int p2), .val (.int p3), .val (.int p4), .val (.int las), .val (.int lbs), .val (.int lan), .val (.int lbn), .val (.int sa0), .val (.int sa1), .val (.int fS), .val (.int sb0), .val (.int sb1), .val (.int na0), .val (.int na1), .val (.int fN), .val (.int nb0), .val (.int nb1), .val (.ref s196), .val (.ref s207), .val (.ref s218), .val (.ref s229), .val (.ref b234), .val (.ref b247), .val (.int (2 : Int32)), .val (.ref s196), .val (.int rS), .val (.int rN), .val (.int (0 : Int32))]) rfl ?_
                refine k_aload G X at_413 (pc' := 415) rfl rfl rfl ?_
                refine k_aload G X at_415 (pc' := 417) rfl rfl rfl ?_
                refine k_callV G X (argsL := [(.ref s196)]) (rest := []) rfl X_b234 (w201 hw) (w202 hw) (nf_sel (w204 hw)) (w204 hw) (w203 hw) (w36 hw) (w205 hw) (by decide) (tn_t hw b234 s196 h255 n0 _ X_s196) at_417 pd28 rfl (pc' := 420) rfl rfl (wd := 0) rfl (by decide) (by decide) (by decide) (by decide) (fun T h417 v sf417 X q => ?_)
                replace X := W.drop X
                obtain ⟨rfl, e417⟩ := q
                replace X := X.eq e417
                show Go Γ n0 _ T (mkF Γ.m 420 #[.val (.int p0), .val (.int p1), .val (.int p2), .val (.int p3), .val (.int p4), .val (.int las), .val (.int lbs), .val (.int lan), .val (.int lbn), .val (.int sa0), .val (.int sa1), .val (.int fS), .val (.int sb0), .val (.int sb1), .val (.int na0), .val (.int na1), .val (.int fN), .val (.int nb0), .val (.int nb1), .val (.ref s196), .val (.ref s207), .val (.ref s218), .val (.ref s229), .val (.ref b234), .val (.ref b247), .val (.int (2 : Int32)), .val (.ref s196), .val (.int rS), .val (.int rN), .val (.int (0 : Int32))] [(.int (0 : Int32))])
                refine k_iload G X at_420 (pc' := 422) rfl rfl ?_
                refine k_icmp_ne G X at_422 (pc' := 429) rfl (by decide) (pc'' := 425) rfl (fun c422 => (absurd c422 (by decide))) (fun c422 => ?_)
                refine k_iconst G X at_425 (pc' := 426) rfl (z := (1 : Int32)) (by decide) ?_
                refine k_goto G X at_426 (by decide) (pc' := 430) rfl ?_
                refine k_retb G X at_430 (t := .boolean) rfl (by simp) rfl ?_ (by decide) (by decide)
                rfl
              refine k_iload G X at_341 (pc' := 343) rfl rfl ?_
              refine k_iload G X at_343 (pc' := 345) rfl rfl ?_
              refine k_icmp_ne G X at_345 (pc' := 372) rfl (by decide) (pc'' := 348) rfl (fun c345 => ?_) (fun c345 => ?_)
              · refine k_iconst G X at_372 (pc' := 373) rfl (z := (0 : Int32)) (by decide) ?_
                exact J373 T (0 : Int32) (Or.inr ⟨rfl, fun q => by first | exact c345 (of_toInt (by rw [hn_lan, hn_lbn, q.1])) | exact q.2.1.elim (fun h => by omega) c352 | exact q.2.2.elim (fun h => c358 (of_toInt (by rw [hn_lan, show (1 : Int32).toInt = 1 from rfl]; omega))) c365⟩) X
              · refine k_iload G X at_348 (pc' := 350) rfl rfl ?_
                refine k_iload G X at_350 (pc' := 352) rfl rfl ?_
                refine k_icmp_ne G X at_352 (pc' := 372) rfl (by decide) (pc'' := 355) rfl (fun c352 => ?_) (fun c352 => ?_)
                · refine k_iconst G X at_372 (pc' := 373) rfl (z := (0 : Int32)) (by decide) ?_
                  exact J373 T (0 : Int32) (Or.inr ⟨rfl, fun q => by first | exact c345 (of_toInt (by rw [hn_lan, hn_lbn, q.1])) | exact q.2.1.elim (fun h => by omega) c352 | exact q.2.2.elim (fun h => c358 (of_toInt (by rw [hn_lan, show (1 : Int32).toInt = 1 from rfl]; omega))) c365⟩) X
                · refine k_iload G X at_355 (pc' := 357) rfl rfl ?_
                  refine k_iconst G X at_357 (pc' := 358) rfl (z := (1 : Int32)) (by decide) ?_
                  refine k_icmp_eq G X at_358 (pc' := 368) rfl (by decide) (pc'' := 361) rfl (fun c358 => ?_) (fun c358 => ?_)
                  · refine k_iconst G X at_368 (pc' := 369) rfl (z := (1 : Int32)) (by decide) ?_
                    refine k_goto G X at_369 (by decide) (pc' := 373) rfl ?_
                    exact J373 T (1 : Int32) (Or.inl ⟨rfl, by have := congrArg Int32.toInt c345; omega, Or.inr c352, by first | exact Or.inr c365 | exact Or.inl (by have := congrArg Int32.toInt c358; rw [show (1 : Int32).toInt = 1 from rfl] at this; omega)⟩) X
                  · refine k_iload G X at_361 (pc' := 363) rfl rfl ?_
                    refine k_iload G X at_363 (pc' := 365) rfl rfl ?_
                    refine k_icmp_ne G X at_365 (pc' := 372) rfl (by decide) (pc'' := 368) rfl (fun c365 => ?_) (fun c365 => ?_)
                    · refine k_iconst G X at_372 (pc' := 373) rfl (z := (0 : Int32)) (by decide) ?_
                      exact J373 T (0 : Int32) (Or.inr ⟨rfl, fun q => by first | exact c345 (of_toInt (by rw [hn_lan, hn_lbn, q.1])) | exact q.2.1.elim (fun h => by omega) c352 | exact q.2.2.elim (fun h => c358 (of_toInt (by rw [hn_lan, show (1 : Int32).toInt = 1 from rfl]; omega))) c365⟩) X
                    · refine k_iconst G X at_368 (pc' := 369) rfl (z := (1 : Int32)) (by decide) ?_
                      refine k_goto G X at_369 (by decide) (pc' := 373) rfl ?_
                      exact J373 T (1 : Int32) (Or.inl ⟨rfl, by have := congrArg Int32.toInt c345; omega, Or.inr c352, by first | exact Or.inr c365 | exact Or.inl (by have := congrArg Int32.toInt c358; rw [show (1 : Int32).toInt = 1 from rfl] at this; omega)⟩) X
            refine k_iload G X at_307 (pc' := 309) rfl rfl ?_
            refine k_iload G X at_309 (pc' := 311) rfl rfl ?_
            refine k_icmp_ne G X at_311 (pc' := 338) rfl (by decide) (pc'' := 314) rfl (fun c311 => ?_) (fun c311 => ?_)
            · refine k_iconst G X at_338 (pc' := 339) rfl (z := (0 : Int32)) (by decide) ?_
              exact J339 T (0 : Int32) (Or.inr ⟨rfl, fun q => by first | exact c311 (of_toInt (by rw [hn_las, hn_lbs, q.1])) | exact q.2.1.elim (fun h => by omega) c318 | exact q.2.2.elim (fun h => c324 (of_toInt (by rw [hn_las, show (1 : Int32).toInt = 1 from rfl]; omega))) c331⟩) X
            · refine k_iload G X at_314 (pc' := 316) rfl rfl ?_
              refine k_iload G X at_316 (pc' := 318) rfl rfl ?_
              refine k_icmp_ne G X at_318 (pc' := 338) rfl (by decide) (pc'' := 321) rfl (fun c318 => ?_) (fun c318 => ?_)
              · refine k_iconst G X at_338 (pc' := 339) rfl (z := (0 : Int32)) (by decide) ?_
                exact J339 T (0 : Int32) (Or.inr ⟨rfl, fun q => by first | exact c311 (of_toInt (by rw [hn_las, hn_lbs, q.1])) | exact q.2.1.elim (fun h => by omega) c318 | exact q.2.2.elim (fun h => c324 (of_toInt (by rw [hn_las, show (1 : Int32).toInt = 1 from rfl]; omega))) c331⟩) X
              · refine k_iload G X at_321 (pc' := 323) rfl rfl ?_
                refine k_iconst G X at_323 (pc' := 324) rfl (z := (1 : Int32)) (by decide) ?_
                refine k_icmp_eq G X at_324 (pc' := 334) rfl (by decide) (pc'' := 327) rfl (fun c324 => ?_) (fun c324 => ?_)
                · refine k_iconst G X at_334 (pc' := 335) rfl (z := (1 : Int32)) (by decide) ?_
                  refine k_goto G X at_335 (by decide) (pc' := 339) rfl ?_
                  exact J339 T (1 : Int32) (Or.inl ⟨rfl, by have := congrArg Int32.toInt c311; omega, Or.inr c318, by first | exact Or.inr c331 | exact Or.inl (by have := congrArg Int32.toInt c324; rw [show (1 : Int32).toInt = 1 from rfl] at this; omega)⟩) X
                · refine k_iload G X at_327 (pc' := 329) rfl rfl ?_
                  refine k_iload G X at_329 (pc' := 331) rfl rfl ?_
                  refine k_icmp_ne G X at_331 (pc' := 338) rfl (by decide) (pc'' := 334) rfl (fun c331 => ?_) (fun c331 => ?_)
                  · refine k_iconst G X at_338 (pc' := 339) rfl (z := (0 : Int32)) (by decide) ?_
                    exact J339 T (0 : Int32) (Or.inr ⟨rfl, fun q => by first | exact c311 (of_toInt (by rw [hn_las, hn_lbs, q.1])) | exact q.2.1.elim (fun h => by omega) c318 | exact q.2.2.elim (fun h => c324 (of_toInt (by rw [hn_las, show (1 : Int32).toInt = 1 from rfl]; omega))) c331⟩) X
                  · refine k_iconst G X at_334 (pc' := 335) rfl (z := (1 : Int32)) (by decide) ?_
                    refine k_goto G X at_335 (by decide) (pc' := 339) rfl ?_
                    exact J339 T (1 : Int32) (Or.inl ⟨rfl, by have := congrArg Int32.toInt c311; omega, Or.inr c318, by first | exact Or.inr c331 | exact Or.inl (by have := congrArg Int32.toInt c324; rw [show (1 : Int32).toInt = 1 from rfl] at this; omega)⟩) X
        · subst c281
          refine k_anull G X at_284 (pc' := 285) rfl ?_
          refine k_astore G X at_285 (pc' := 287) rfl rfl (l' := #[.val (.int p0), .val (.int p1), .val (.int p2), .val (.int p3), .val (.int p4), .val (.int las), .val (.int lbs), .val (.int lan), .val (.int lbn), .val (.int sa0), .val (.int sa1), .val (.int fS), .val (.int sb0), .val (.int sb1), .val (.int na0), .val (.int na1), .val (.int fN), .val (.int nb0), .val (.int nb1), .val (.ref s196), .val (.ref s207), .val (.ref s218), .val (.ref s229), .val (.ref b234), .val (.ref b247), .val (.int (1 : Int32)), .val .null, .unset, .unset, .unset]) rfl ?_
          refine k_goto G X at_287 (by decide) (pc' := 307) rfl ?_
          have J339 : ∀ (T : State) (rS : Int32), ((rS = 1 ∧ (l1 = l2 ∧ (l1 < 1 ∨ sa0 = sb0) ∧ (l1 < 2 ∨ sa1 = sb1))) ∨ (rS = 0 ∧ ¬ (l1 = l2 ∧ (l1 < 1 ∨ sa0 = sb0) ∧ (l1 < 2 ∨ sa1 = sb1)))) → W Γ n0 T h255 36 214 (b247 :: b234 :: s229 :: s218 :: s207 :: s196 :: []) → Go Γ n0 (fun v h sf => v = some (.int 1)) T (mkF Γ.m 339 #[.val (.int p0), .val (.int p1), .val (.int p2), .val (.int p3), .val (.int p4), .val (.int las), .val (.int lbs), .val (.int lan), .val (.int lbn), .val (.int sa0), .val (.int sa1), .val (.int fS), .val (.int sb0), .val (.int sb1), .val (.int na0), .val (.int na1), .val (.int fN), .val (.int nb0), .val (.int nb1), .val (.ref s196), .val (.ref s207), .val (.ref s218), .val (.ref s229), .val (.ref b234), .val (.ref b247), .val (.int (1 : Int32)), .val .null, .unset, .unset, .unset] [(.int rS)]) := by
            intro T rS hrS X
            refine k_istore G X at_339 (pc' := 341) rfl (l' := #[.val (.int p0), .val (.int p1), .val (.int p2), .val (.int p3), .val (.int p4), .val (.int las), .val (.int lbs), .val (.int lan), .val (.int lbn), .val (.int sa0), .val (.int sa1), .val (.int fS), .val (.int sb0), .val (.int sb1), .val (.int na0), .val (.int na1), .val (.int fN), .val (.int nb0), .val (.int nb1), .val (.ref s196), .val (.ref s207), .val (.ref s218), .val (.ref s229), .val (.ref b234), .val (.ref b247), .val (.int (1 : Int32)), .val .null, .val (.int rS), .unset, .unset]) rfl ?_
            have J373 : ∀ (T : State) (rN : Int32), ((rN = 1 ∧ (l3 = l4 ∧ (l3 < 1 ∨ na0 = nb0) ∧ (l3 < 2 ∨ na1 = nb1))) ∨ (rN = 0 ∧ ¬ (l3 = l4 ∧ (l3 < 1 ∨ na0 = nb0) ∧ (l3 < 2 ∨ na1 = nb1)))) → W Γ n0 T h255 36 214 (b247 :: b234 :: s229 :: s218 :: s207 :: s196 :: []) → Go Γ n0 (fun v h sf => v = some (.int 1)) T (mkF Γ.m 373 #[.val (.int p0), .val (.int p1), .val (.int p2), .val (.int p3), .val (.int p4), .val (.int las), .val (.int lbs), .val (.int lan), .val (.int lbn), .val (.int sa0), .val (.int sa1), .val (.int fS), .val (.int sb0), .val (.int sb1), .val (.int na0), .val (.int na1), .val (.int fN), .val (.int nb0), .val (.int nb1), .val (.ref s196), .val (.ref s207), .val (.ref s218), .val (.ref s229), .val (.ref b234), .val (.ref b247), .val (.int (1 : Int32)), .val .null, .val (.int rS), .unset, .unset] [(.int rN)]) := by
              intro T rN hrN X
              refine k_istore G X at_373 (pc' := 375) rfl (l' := #[.val (.int p0), .val (.int p1), .val (.int p2), .val (.int p3), .val (.int p4), .val (.int las), .val (.int lbs), .val (.int lan), .val (.int lbn), .val (.int sa0), .val (.int sa1), .val (.int fS), .val (.int sb0), .val (.int sb1), .val (.int na0), .val (.int na1), .val (.int fN), .val (.int nb0), .val (.int nb1), .val (.ref s196), .val (.ref s207), .val (.ref s218), .val (.ref s229), .val (.ref b234), .val (.ref b247), .val (.int (1 : Int32)), .val .null, .val (.int rS), .val (.int rN), .unset]) rfl ?_
              refine k_iload G X at_375 (pc' := 377) rfl rfl ?_
              refine k_if_ne G X at_377 (pc' := 400) rfl (by decide) (pc'' := 380) rfl (fun c377 => ?_) (fun c377 => (absurd c377 (by decide)))
              refine k_iload G X at_400 (pc' := 402) rfl rfl ?_
              refine k_iconst G X at_402 (pc' := 403) rfl (z := (3 : Int32)) (by decide) ?_
              refine k_icmp_ne G X at_403 (pc' := 410) rfl (by decide) (pc'' := 406) rfl (fun c403 => ?_) (fun c403 => (absurd c403 (by decide)))
              refine k_iconst G X at_410 (pc' := 411) rfl (z := (0 : Int32)) (by decide) ?_
              refine k_istore G X at_411 (pc' := 413) rfl (l' := #[.val (.int p0), .val (.int p1), .val (.int p2), .val (.int p3), .val (.int p4), .val (.int las), .val (.int lbs), .val (.int lan), .val (.int lbn), .val (.int sa0), .val (.int sa1), .val (.int fS), .val (.int sb0), .val (.int sb1), .val (.int na0), .val (.int na1), .val (.int fN), .val (.int nb0), .val (.int nb1), .val (.ref s196), .val (.ref s207), .val (.ref s218), .val (.ref s229), .val (.ref b234), .val (.ref b247), .val (.int (1 : Int32)), .val .null, .val (.int rS), .val (.int rN), .val (.int (0 : Int32))]) rfl ?_
              refine k_aload G X at_413 (pc' := 415) rfl rfl rfl ?_
              refine k_aload G X at_415 (pc' := 417) rfl rfl rfl ?_
              refine k_callV G X (argsL := [.null]) (rest := []) rfl X_b234 (w201 hw) (w202 hw) (nf_sel (w204 hw)) (w204 hw) (w203 hw) (w36 hw) (w205 hw) (by decide) (tn_n hw b234 h255 n0 _) at_417 pd28 rfl (pc' := 420) rfl rfl (wd := 0) rfl (by decide) (by decide) (by decide) (by decide) (fun T h417 v sf417 X q => ?_)
              replace X := W.drop X
              obtain ⟨rfl, e417⟩ := q
              replace X := X.eq e417
              show Go Γ n0 _ T (mkF Γ.m 420 #[.val (.int p0), .val (.int p1), .val (.int p2), .val (.int p3), .val (.int p4), .val (.int las), .val (.int lbs), .val (.int lan), .val (.int lbn), .val (.int sa0), .val (.int sa1), .val (.int fS), .val (.int sb0), .val (.int sb1), .val (.int na0), .val (.int na1), .val (.int fN), .val (.int nb0), .val (.int nb1), .val (.ref s196), .val (.ref s207), .val (.ref s218), .val (.ref s229), .val (.ref b234), .val (.ref b247), .val (.int (1 : Int32)), .val .null, .val (.int rS), .val (.int rN), .val (.int (0 : Int32))] [(.int (0 : Int32))])
              refine k_iload G X at_420 (pc' := 422) rfl rfl ?_
              refine k_icmp_ne G X at_422 (pc' := 429) rfl (by decide) (pc'' := 425) rfl (fun c422 => (absurd c422 (by decide))) (fun c422 => ?_)
              refine k_iconst G X at_425 (pc' := 426) rfl (z := (1 : Int32)) (by decide) ?_
              refine k_goto G X at_426 (by decide) (pc' := 430) rfl ?_
              refine k_retb G X at_430 (t := .boolean) rfl (by simp) rfl ?_ (by decide) (by decide)
              rfl
            refine k_iload G X at_341 (pc' := 343) rfl rfl ?_
            refine k_iload G X at_343 (pc' := 345) rfl rfl ?_
            refine k_icmp_ne G X at_345 (pc' := 372) rfl (by decide) (pc'' := 348) rfl (fun c345 => ?_) (fun c345 => ?_)
            · refine k_iconst G X at_372 (pc' := 373) rfl (z := (0 : Int32)) (by decide) ?_
              exact J373 T (0 : Int32) (Or.inr ⟨rfl, fun q => by first | exact c345 (of_toInt (by rw [hn_lan, hn_lbn, q.1])) | exact q.2.1.elim (fun h => by omega) c352 | exact q.2.2.elim (fun h => c358 (of_toInt (by rw [hn_lan, show (1 : Int32).toInt = 1 from rfl]; omega))) c365⟩) X
            · refine k_iload G X at_348 (pc' := 350) rfl rfl ?_
              refine k_iload G X at_350 (pc' := 352) rfl rfl ?_
              refine k_icmp_ne G X at_352 (pc' := 372) rfl (by decide) (pc'' := 355) rfl (fun c352 => ?_) (fun c352 => ?_)
              · refine k_iconst G X at_372 (pc' := 373) rfl (z := (0 : Int32)) (by decide) ?_
                exact J373 T (0 : Int32) (Or.inr ⟨rfl, fun q => by first | exact c345 (of_toInt (by rw [hn_lan, hn_lbn, q.1])) | exact q.2.1.elim (fun h => by omega) c352 | exact q.2.2.elim (fun h => c358 (of_toInt (by rw [hn_lan, show (1 : Int32).toInt = 1 from rfl]; omega))) c365⟩) X
              · refine k_iload G X at_355 (pc' := 357) rfl rfl ?_
                refine k_iconst G X at_357 (pc' := 358) rfl (z := (1 : Int32)) (by decide) ?_
                refine k_icmp_eq G X at_358 (pc' := 368) rfl (by decide) (pc'' := 361) rfl (fun c358 => ?_) (fun c358 => ?_)
                · refine k_iconst G X at_368 (pc' := 369) rfl (z := (1 : Int32)) (by decide) ?_
                  refine k_goto G X at_369 (by decide) (pc' := 373) rfl ?_
                  exact J373 T (1 : Int32) (Or.inl ⟨rfl, by have := congrArg Int32.toInt c345; omega, Or.inr c352, by first | exact Or.inr c365 | exact Or.inl (by have := congrArg Int32.toInt c358; rw [show (1 : Int32).toInt = 1 from rfl] at this; omega)⟩) X
                · refine k_iload G X at_361 (pc' := 363) rfl rfl ?_
                  refine k_iload G X at_363 (pc' := 365) rfl rfl ?_
                  refine k_icmp_ne G X at_365 (pc' := 372) rfl (by decide) (pc'' := 368) rfl (fun c365 => ?_) (fun c365 => ?_)
                  · refine k_iconst G X at_372 (pc' := 373) rfl (z := (0 : Int32)) (by decide) ?_
                    exact J373 T (0 : Int32) (Or.inr ⟨rfl, fun q => by first | exact c345 (of_toInt (by rw [hn_lan, hn_lbn, q.1])) | exact q.2.1.elim (fun h => by omega) c352 | exact q.2.2.elim (fun h => c358 (of_toInt (by rw [hn_lan, show (1 : Int32).toInt = 1 from rfl]; omega))) c365⟩) X
                  · refine k_iconst G X at_368 (pc' := 369) rfl (z := (1 : Int32)) (by decide) ?_
                    refine k_goto G X at_369 (by decide) (pc' := 373) rfl ?_
                    exact J373 T (1 : Int32) (Or.inl ⟨rfl, by have := congrArg Int32.toInt c345; omega, Or.inr c352, by first | exact Or.inr c365 | exact Or.inl (by have := congrArg Int32.toInt c358; rw [show (1 : Int32).toInt = 1 from rfl] at this; omega)⟩) X
          refine k_iload G X at_307 (pc' := 309) rfl rfl ?_
          refine k_iload G X at_309 (pc' := 311) rfl rfl ?_
          refine k_icmp_ne G X at_311 (pc' := 338) rfl (by decide) (pc'' := 314) rfl (fun c311 => ?_) (fun c311 => ?_)
          · refine k_iconst G X at_338 (pc' := 339) rfl (z := (0 : Int32)) (by decide) ?_
            exact J339 T (0 : Int32) (Or.inr ⟨rfl, fun q => by first | exact c311 (of_toInt (by rw [hn_las, hn_lbs, q.1])) | exact q.2.1.elim (fun h => by omega) c318 | exact q.2.2.elim (fun h => c324 (of_toInt (by rw [hn_las, show (1 : Int32).toInt = 1 from rfl]; omega))) c331⟩) X
          · refine k_iload G X at_314 (pc' := 316) rfl rfl ?_
            refine k_iload G X at_316 (pc' := 318) rfl rfl ?_
            refine k_icmp_ne G X at_318 (pc' := 338) rfl (by decide) (pc'' := 321) rfl (fun c318 => ?_) (fun c318 => ?_)
            · refine k_iconst G X at_338 (pc' := 339) rfl (z := (0 : Int32)) (by decide) ?_
              exact J339 T (0 : Int32) (Or.inr ⟨rfl, fun q => by first | exact c311 (of_toInt (by rw [hn_las, hn_lbs, q.1])) | exact q.2.1.elim (fun h => by omega) c318 | exact q.2.2.elim (fun h => c324 (of_toInt (by rw [hn_las, show (1 : Int32).toInt = 1 from rfl]; omega))) c331⟩) X
            · refine k_iload G X at_321 (pc' := 323) rfl rfl ?_
              refine k_iconst G X at_323 (pc' := 324) rfl (z := (1 : Int32)) (by decide) ?_
              refine k_icmp_eq G X at_324 (pc' := 334) rfl (by decide) (pc'' := 327) rfl (fun c324 => ?_) (fun c324 => ?_)
              · refine k_iconst G X at_334 (pc' := 335) rfl (z := (1 : Int32)) (by decide) ?_
                refine k_goto G X at_335 (by decide) (pc' := 339) rfl ?_
                exact J339 T (1 : Int32) (Or.inl ⟨rfl, by have := congrArg Int32.toInt c311; omega, Or.inr c318, by first | exact Or.inr c331 | exact Or.inl (by have := congrArg Int32.toInt c324; rw [show (1 : Int32).toInt = 1 from rfl] at this; omega)⟩) X
              · refine k_iload G X at_327 (pc' := 329) rfl rfl ?_
                refine k_iload G X at_329 (pc' := 331) rfl rfl ?_
                refine k_icmp_ne G X at_331 (pc' := 338) rfl (by decide) (pc'' := 334) rfl (fun c331 => ?_) (fun c331 => ?_)
                · refine k_iconst G X at_338 (pc' := 339) rfl (z := (0 : Int32)) (by decide) ?_
                  exact J339 T (0 : Int32) (Or.inr ⟨rfl, fun q => by first | exact c311 (of_toInt (by rw [hn_las, hn_lbs, q.1])) | exact q.2.1.elim (fun h => by omega) c318 | exact q.2.2.elim (fun h => c324 (of_toInt (by rw [hn_las, show (1 : Int32).toInt = 1 from rfl]; omega))) c331⟩) X
                · refine k_iconst G X at_334 (pc' := 335) rfl (z := (1 : Int32)) (by decide) ?_
                  refine k_goto G X at_335 (by decide) (pc' := 339) rfl ?_
                  exact J339 T (1 : Int32) (Or.inl ⟨rfl, by have := congrArg Int32.toInt c311; omega, Or.inr c318, by first | exact Or.inr c331 | exact Or.inl (by have := congrArg Int32.toInt c324; rw [show (1 : Int32).toInt = 1 from rfl] at this; omega)⟩) X
      · subst c268
        refine k_aload G X at_271 (pc' := 273) rfl rfl rfl ?_
        refine k_astore G X at_273 (pc' := 275) rfl rfl (l' := #[.val (.int p0), .val (.int p1), .val (.int p2), .val (.int p3), .val (.int p4), .val (.int las), .val (.int lbs), .val (.int lan), .val (.int lbn), .val (.int sa0), .val (.int sa1), .val (.int fS), .val (.int sb0), .val (.int sb1), .val (.int na0), .val (.int na1), .val (.int fN), .val (.int nb0), .val (.int nb1), .val (.ref s196), .val (.ref s207), .val (.ref s218), .val (.ref s229), .val (.ref b234), .val (.ref b247), .val (.int (0 : Int32)), .val (.ref b247), .unset, .unset, .unset]) rfl ?_
        refine k_goto G X at_275 (by decide) (pc' := 307) rfl ?_
        have J339 : ∀ (T : State) (rS : Int32), ((rS = 1 ∧ (l1 = l2 ∧ (l1 < 1 ∨ sa0 = sb0) ∧ (l1 < 2 ∨ sa1 = sb1))) ∨ (rS = 0 ∧ ¬ (l1 = l2 ∧ (l1 < 1 ∨ sa0 = sb0) ∧ (l1 < 2 ∨ sa1 = sb1)))) → W Γ n0 T h255 36 214 (b247 :: b234 :: s229 :: s218 :: s207 :: s196 :: []) → Go Γ n0 (fun v h sf => v = some (.int 1)) T (mkF Γ.m 339 #[.val (.int p0), .val (.int p1), .val (.int p2), .val (.int p3), .val (.int p4), .val (.int las), .val (.int lbs), .val (.int lan), .val (.int lbn), .val (.int sa0), .val (.int sa1), .val (.int fS), .val (.int sb0), .val (.int sb1), .val (.int na0), .val (.int na1), .val (.int fN), .val (.int nb0), .val (.int nb1), .val (.ref s196), .val (.ref s207), .val (.ref s218), .val (.ref s229), .val (.ref b234), .val (.ref b247), .val (.int (0 : Int32)), .val (.ref b247), .unset, .unset, .unset] [(.int rS)]) := by
          intro T rS hrS X
          refine k_istore G X at_339 (pc' := 341) rfl (l' := #[.val (.int p0), .val (.int p1), .val (.int p2), .val (.int p3), .val (.int p4), .val (.int las), .val (.int lbs), .val (.int lan), .val (.int lbn), .val (.int sa0), .val (.int sa1), .val (.int fS), .val (.int sb0), .val (.int sb1), .val (.int na0), .val (.int na1), .val (.int fN), .val (.int nb0), .val (.int nb1), .val (.ref s196), .val (.ref s207), .val (.ref s218), .val (.ref s229), .val (.ref b234), .val (.ref b247), .val (.int (0 : Int32)), .val (.ref b247), .val (.int rS), .unset, .unset]) rfl ?_
          have J373 : ∀ (T : State) (rN : Int32), ((rN = 1 ∧ (l3 = l4 ∧ (l3 < 1 ∨ na0 = nb0) ∧ (l3 < 2 ∨ na1 = nb1))) ∨ (rN = 0 ∧ ¬ (l3 = l4 ∧ (l3 < 1 ∨ na0 = nb0) ∧ (l3 < 2 ∨ na1 = nb1)))) → W Γ n0 T h255 36 214 (b247 :: b234 :: s229 :: s218 :: s207 :: s196 :: []) → Go Γ n0 (fun v h sf => v = some (.int 1)) T (mkF Γ.m 373 #[.val (.int p0), .val (.int p1), .val (.int p2), .val (.int p3), .val (.int p4), .val (.int las), .val (.int lbs), .val (.int lan), .val (.int lbn), .val (.int sa0), .val (.int sa1), .val (.int fS), .val (.int sb0), .val (.int sb1), .val (.int na0), .val (.int na1), .val (.int fN), .val (.int nb0), .val (.int nb1), .val (.ref s196), .val (.ref s207), .val (.ref s218), .val (.ref s229), .val (.ref b234), .val (.ref b247), .val (.int (0 : Int32)), .val (.ref b247), .val (.int rS), .unset, .unset] [(.int rN)]) := by
            intro T rN hrN X
            refine k_istore G X at_373 (pc' := 375) rfl (l' := #[.val (.int p0), .val (.int p1), .val (.int p2), .val (.int p3), .val (.int p4), .val (.int las), .val (.int lbs), .val (.int lan), .val (.int lbn), .val (.int sa0), .val (.int sa1), .val (.int fS), .val (.int sb0), .val (.int sb1), .val (.int na0), .val (.int na1), .val (.int fN), .val (.int nb0), .val (.int nb1), .val (.ref s196), .val (.ref s207), .val (.ref s218), .val (.ref s229), .val (.ref b234), .val (.ref b247), .val (.int (0 : Int32)), .val (.ref b247), .val (.int rS), .val (.int rN), .unset]) rfl ?_
            refine k_iload G X at_375 (pc' := 377) rfl rfl ?_
            refine k_if_ne G X at_377 (pc' := 400) rfl (by decide) (pc'' := 380) rfl (fun c377 => (absurd c377 (by decide))) (fun c377 => ?_)
            refine k_iload G X at_380 (pc' := 382) rfl rfl ?_
            refine k_if_eq G X at_382 (pc' := 394) rfl (by decide) (pc'' := 385) rfl (fun c382 => ?_) (fun c382 => ?_)
            · refine k_iconst G X at_394 (pc' := 395) rfl (z := (0 : Int32)) (by decide) ?_
              refine k_istore G X at_395 (pc' := 397) rfl (l' := #[.val (.int p0), .val (.int p1), .val (.int p2), .val (.int p3), .val (.int p4), .val (.int las), .val (.int lbs), .val (.int lan), .val (.int lbn), .val (.int sa0), .val (.int sa1), .val (.int fS), .val (.int sb0), .val (.int sb1), .val (.int na0), .val (.int na1), .val (.int fN), .val (.int nb0), .val (.int nb1), .val (.ref s196), .val (.ref s207), .val (.ref s218), .val (.ref s229), .val (.ref b234), .val (.ref b247), .val (.int (0 : Int32)), .val (.ref b247), .val (.int rS), .val (.int rN), .val (.int (0 : Int32))]) rfl ?_
              refine k_goto G X at_397 (by decide) (pc' := 413) rfl ?_
              refine k_aload G X at_413 (pc' := 415) rfl rfl rfl ?_
              refine k_aload G X at_415 (pc' := 417) rfl rfl rfl ?_
              refine k_callV G X (argsL := [(.ref b247)]) (rest := []) rfl X_b234 (w201 hw) (w202 hw) (nf_sel (w204 hw)) (w204 hw) (w203 hw) (w36 hw) (w205 hw) (by decide) (tn_q hw b234 b247 s196 s218 s207 s229 t196 t218 t207 t229 k196 k218 k207 k229 l1 l3 l2 l4 cs _ _ _ _ h255 n0 _ X_b247 FS_b234 FM_b234 FS_b247 FM_b247 SS196 SS218 SS207 SS229 ne_s196_s207 ne_s218_s229 S_CS hcs) at_417 pd28 rfl (pc' := 420) rfl rfl (wd := 0) rfl (by decide) (by decide) (by decide) (by decide) (fun T h417 v sf417 X q => ?_)
              replace X := W.drop X
              obtain ⟨rq, rfl, hrq, hiq, e417⟩ := q
              replace X := X.eq e417
              have hfin := own_fin hrq (hiq.trans (and_congr (same_iff le2_las rg_sa0 rg_sa1 rg_sb0 rg_sb1) (same_iff le2_lan rg_na0 rg_na1 rg_nb0 rg_nb1))) hrS hrN
              show Go Γ n0 _ T (mkF Γ.m 420 #[.val (.int p0), .val (.int p1), .val (.int p2), .val (.int p3), .val (.int p4), .val (.int las), .val (.int lbs), .val (.int lan), .val (.int lbn), .val (.int sa0), .val (.int sa1), .val (.int fS), .val (.int sb0), .val (.int sb1), .val (.int na0), .val (.int na1), .val (.int fN), .val (.int nb0), .val (.int nb1), .val (.ref s196), .val (.ref s207), .val (.ref s218), .val (.ref s229), .val (.ref b234), .val (.ref b247), .val (.int (0 : Int32)), .val (.ref b247), .val (.int rS), .val (.int rN), .val (.int (0 : Int32))] [(.int rq)])
              refine k_iload G X at_420 (pc' := 422) rfl rfl ?_
              refine k_icmp_ne G X at_422 (pc' := 429) rfl (by decide) (pc'' := 425) rfl (fun c422 => (absurd c422 (by first | simpa using hfin.1 c382 c387 | simpa using hfin.2.1 c382 | simpa using hfin.2.2 c387))) (fun c422 => ?_)
              refine k_iconst G X at_425 (pc' := 426) rfl (z := (1 : Int32)) (by decide) ?_
              refine k_goto G X at_426 (by decide) (pc' := 430) rfl ?_
              refine k_retb G X at_430 (t := .boolean) rfl (by simp) rfl ?_ (by decide) (by decide)
              rfl
            · refine k_iload G X at_385 (pc' := 387) rfl rfl ?_
              refine k_if_eq G X at_387 (pc' := 394) rfl (by decide) (pc'' := 390) rfl (fun c387 => ?_) (fun c387 => ?_)
              · refine k_iconst G X at_394 (pc' := 395) rfl (z := (0 : Int32)) (by decide) ?_
                refine k_istore G X at_395 (pc' := 397) rfl (l' := #[.val (.int p0), .val (.int p1), .val (.int p2), .val (.int p3), .val (.int p4), .val (.int las), .val (.int lbs), .val (.int lan), .val (.int lbn), .val (.int sa0), .val (.int sa1), .val (.int fS), .val (.int sb0), .val (.int sb1), .val (.int na0), .val (.int na1), .val (.int fN), .val (.int nb0), .val (.int nb1), .val (.ref s196), .val (.ref s207), .val (.ref s218), .val (.ref s229), .val (.ref b234), .val (.ref b247), .val (.int (0 : Int32)), .val (.ref b247), .val (.int rS), .val (.int rN), .val (.int (0 : Int32))]) rfl ?_
                refine k_goto G X at_397 (by decide) (pc' := 413) rfl ?_
                refine k_aload G X at_413 (pc' := 415) rfl rfl rfl ?_
                refine k_aload G X at_415 (pc' := 417) rfl rfl rfl ?_
                refine k_callV G X (argsL := [(.ref b247)]) (rest := []) rfl X_b234 (w201 hw) (w202 hw) (nf_sel (w204 hw)) (w204 hw) (w203 hw) (w36 hw) (w205 hw) (by decide) (tn_q hw b234 b247 s196 s218 s207 s229 t196 t218 t207 t229 k196 k218 k207 k229 l1 l3 l2 l4 cs _ _ _ _ h255 n0 _ X_b247 FS_b234 FM_b234 FS_b247 FM_b247 SS196 SS218 SS207 SS229 ne_s196_s207 ne_s218_s229 S_CS hcs) at_417 pd28 rfl (pc' := 420) rfl rfl (wd := 0) rfl (by decide) (by decide) (by decide) (by decide) (fun T h417 v sf417 X q => ?_)
                replace X := W.drop X
                obtain ⟨rq, rfl, hrq, hiq, e417⟩ := q
                replace X := X.eq e417
                have hfin := own_fin hrq (hiq.trans (and_congr (same_iff le2_las rg_sa0 rg_sa1 rg_sb0 rg_sb1) (same_iff le2_lan rg_na0 rg_na1 rg_nb0 rg_nb1))) hrS hrN
                show Go Γ n0 _ T (mkF Γ.m 420 #[.val (.int p0), .val (.int p1), .val (.int p2), .val (.int p3), .val (.int p4), .val (.int las), .val (.int lbs), .val (.int lan), .val (.int lbn), .val (.int sa0), .val (.int sa1), .val (.int fS), .val (.int sb0), .val (.int sb1), .val (.int na0), .val (.int na1), .val (.int fN), .val (.int nb0), .val (.int nb1), .val (.ref s196), .val (.ref s207), .val (.ref s218), .val (.ref s229), .val (.ref b234), .val (.ref b247), .val (.int (0 : Int32)), .val (.ref b247), .val (.int rS), .val (.int rN), .val (.int (0 : Int32))] [(.int rq)])
                refine k_iload G X at_420 (pc' := 422) rfl rfl ?_
                refine k_icmp_ne G X at_422 (pc' := 429) rfl (by decide) (pc'' := 425) rfl (fun c422 => (absurd c422 (by first | simpa using hfin.1 c382 c387 | simpa using hfin.2.1 c382 | simpa using hfin.2.2 c387))) (fun c422 => ?_)
                refine k_iconst G X at_425 (pc' := 426) rfl (z := (1 : Int32)) (by decide) ?_
                refine k_goto G X at_426 (by decide) (pc' := 430) rfl ?_
                refine k_retb G X at_430 (t := .boolean) rfl (by simp) rfl ?_ (by decide) (by decide)
                rfl
              · refine k_iconst G X at_390 (pc' := 391) rfl (z := (1 : Int32)) (by decide) ?_
                refine k_goto G X at_391 (by decide) (pc' := 395) rfl ?_
                refine k_istore G X at_395 (pc' := 397) rfl (l' := #[.val (.int p0), .val (.int p1), .val (.int p2), .val (.int p3), .val (.int p4), .val (.int las), .val (.int lbs), .val (.int lan), .val (.int lbn), .val (.int sa0), .val (.int sa1), .val (.int fS), .val (.int sb0), .val (.int sb1), .val (.int na0), .val (.int na1), .val (.int fN), .val (.int nb0), .val (.int nb1), .val (.ref s196), .val (.ref s207), .val (.ref s218), .val (.ref s229), .val (.ref b234), .val (.ref b247), .val (.int (0 : Int32)), .val (.ref b247), .val (.int rS), .val (.int rN), .val (.int (1 : Int32))]) rfl ?_
                refine k_goto G X at_397 (by decide) (pc' := 413) rfl ?_
                refine k_aload G X at_413 (pc' := 415) rfl rfl rfl ?_
                refine k_aload G X at_415 (pc' := 417) rfl rfl rfl ?_
                refine k_callV G X (argsL := [(.ref b247)]) (rest := []) rfl X_b234 (w201 hw) (w202 hw) (nf_sel (w204 hw)) (w204 hw) (w203 hw) (w36 hw) (w205 hw) (by decide) (tn_q hw b234 b247 s196 s218 s207 s229 t196 t218 t207 t229 k196 k218 k207 k229 l1 l3 l2 l4 cs _ _ _ _ h255 n0 _ X_b247 FS_b234 FM_b234 FS_b247 FM_b247 SS196 SS218 SS207 SS229 ne_s196_s207 ne_s218_s229 S_CS hcs) at_417 pd28 rfl (pc' := 420) rfl rfl (wd := 0) rfl (by decide) (by decide) (by decide) (by decide) (fun T h417 v sf417 X q => ?_)
                replace X := W.drop X
                obtain ⟨rq, rfl, hrq, hiq, e417⟩ := q
                replace X := X.eq e417
                have hfin := own_fin hrq (hiq.trans (and_congr (same_iff le2_las rg_sa0 rg_sa1 rg_sb0 rg_sb1) (same_iff le2_lan rg_na0 rg_na1 rg_nb0 rg_nb1))) hrS hrN
                show Go Γ n0 _ T (mkF Γ.m 420 #[.val (.int p0), .val (.int p1), .val (.int p2), .val (.int p3), .val (.int p4), .val (.int las), .val (.int lbs), .val (.int lan), .val (.int lbn), .val (.int sa0), .val (.int sa1), .val (.int fS), .val (.int sb0), .val (.int sb1), .val (.int na0), .val (.int na1), .val (.int fN), .val (.int nb0), .val (.int nb1), .val (.ref s196), .val (.ref s207), .val (.ref s218), .val (.ref s229), .val (.ref b234), .val (.ref b247), .val (.int (0 : Int32)), .val (.ref b247), .val (.int rS), .val (.int rN), .val (.int (1 : Int32))] [(.int rq)])
                refine k_iload G X at_420 (pc' := 422) rfl rfl ?_
                refine k_icmp_ne G X at_422 (pc' := 429) rfl (by decide) (pc'' := 425) rfl (fun c422 => (absurd c422 (by first | simpa using hfin.1 c382 c387 | simpa using hfin.2.1 c382 | simpa using hfin.2.2 c387))) (fun c422 => ?_)
                refine k_iconst G X at_425 (pc' := 426) rfl (z := (1 : Int32)) (by decide) ?_
                refine k_goto G X at_426 (by decide) (pc' := 430) rfl ?_
                refine k_retb G X at_430 (t := .boolean) rfl (by simp) rfl ?_ (by decide) (by decide)
                rfl
          refine k_iload G X at_341 (pc' := 343) rfl rfl ?_
          refine k_iload G X at_343 (pc' := 345) rfl rfl ?_
          refine k_icmp_ne G X at_345 (pc' := 372) rfl (by decide) (pc'' := 348) rfl (fun c345 => ?_) (fun c345 => ?_)
          · refine k_iconst G X at_372 (pc' := 373) rfl (z := (0 : Int32)) (by decide) ?_
            exact J373 T (0 : Int32) (Or.inr ⟨rfl, fun q => by first | exact c345 (of_toInt (by rw [hn_lan, hn_lbn, q.1])) | exact q.2.1.elim (fun h => by omega) c352 | exact q.2.2.elim (fun h => c358 (of_toInt (by rw [hn_lan, show (1 : Int32).toInt = 1 from rfl]; omega))) c365⟩) X
          · refine k_iload G X at_348 (pc' := 350) rfl rfl ?_
            refine k_iload G X at_350 (pc' := 352) rfl rfl ?_
            refine k_icmp_ne G X at_352 (pc' := 372) rfl (by decide) (pc'' := 355) rfl (fun c352 => ?_) (fun c352 => ?_)
            · refine k_iconst G X at_372 (pc' := 373) rfl (z := (0 : Int32)) (by decide) ?_
              exact J373 T (0 : Int32) (Or.inr ⟨rfl, fun q => by first | exact c345 (of_toInt (by rw [hn_lan, hn_lbn, q.1])) | exact q.2.1.elim (fun h => by omega) c352 | exact q.2.2.elim (fun h => c358 (of_toInt (by rw [hn_lan, show (1 : Int32).toInt = 1 from rfl]; omega))) c365⟩) X
            · refine k_iload G X at_355 (pc' := 357) rfl rfl ?_
              refine k_iconst G X at_357 (pc' := 358) rfl (z := (1 : Int32)) (by decide) ?_
              refine k_icmp_eq G X at_358 (pc' := 368) rfl (by decide) (pc'' := 361) rfl (fun c358 => ?_) (fun c358 => ?_)
              · refine k_iconst G X at_368 (pc' := 369) rfl (z := (1 : Int32)) (by decide) ?_
                refine k_goto G X at_369 (by decide) (pc' := 373) rfl ?_
                exact J373 T (1 : Int32) (Or.inl ⟨rfl, by have := congrArg Int32.toInt c345; omega, Or.inr c352, by first | exact Or.inr c365 | exact Or.inl (by have := congrArg Int32.toInt c358; rw [show (1 : Int32).toInt = 1 from rfl] at this; omega)⟩) X
              · refine k_iload G X at_361 (pc' := 363) rfl rfl ?_
                refine k_iload G X at_363 (pc' := 365) rfl rfl ?_
                refine k_icmp_ne G X at_365 (pc' := 372) rfl (by decide) (pc'' := 368) rfl (fun c365 => ?_) (fun c365 => ?_)
                · refine k_iconst G X at_372 (pc' := 373) rfl (z := (0 : Int32)) (by decide) ?_
                  exact J373 T (0 : Int32) (Or.inr ⟨rfl, fun q => by first | exact c345 (of_toInt (by rw [hn_lan, hn_lbn, q.1])) | exact q.2.1.elim (fun h => by omega) c352 | exact q.2.2.elim (fun h => c358 (of_toInt (by rw [hn_lan, show (1 : Int32).toInt = 1 from rfl]; omega))) c365⟩) X
                · refine k_iconst G X at_368 (pc' := 369) rfl (z := (1 : Int32)) (by decide) ?_
                  refine k_goto G X at_369 (by decide) (pc' := 373) rfl ?_
                  exact J373 T (1 : Int32) (Or.inl ⟨rfl, by have := congrArg Int32.toInt c345; omega, Or.inr c352, by first | exact Or.inr c365 | exact Or.inl (by have := congrArg Int32.toInt c358; rw [show (1 : Int32).toInt = 1 from rfl] at this; omega)⟩) X
        refine k_iload G X at_307 (pc' := 309) rfl rfl ?_
        refine k_iload G X at_309 (pc' := 311) rfl rfl ?_
        refine k_icmp_ne G X at_311 (pc' := 338) rfl (by decide) (pc'' := 314) rfl (fun c311 => ?_) (fun c311 => ?_)
        · refine k_iconst G X at_338 (pc' := 339) rfl (z := (0 : Int32)) (by decide) ?_
          exact J339 T (0 : Int32) (Or.inr ⟨rfl, fun q => by first | exact c311 (of_toInt (by rw [hn_las, hn_lbs, q.1])) | exact q.2.1.elim (fun h => by omega) c318 | exact q.2.2.elim (fun h => c324 (of_toInt (by rw [hn_las, show (1 : Int32).toInt = 1 from rfl]; omega))) c331⟩) X
        · refine k_iload G X at_314 (pc' := 316) rfl rfl ?_
          refine k_iload G X at_316 (pc' := 318) rfl rfl ?_
          refine k_icmp_ne G X at_318 (pc' := 338) rfl (by decide) (pc'' := 321) rfl (fun c318 => ?_) (fun c318 => ?_)
          · refine k_iconst G X at_338 (pc' := 339) rfl (z := (0 : Int32)) (by decide) ?_
            exact J339 T (0 : Int32) (Or.inr ⟨rfl, fun q => by first | exact c311 (of_toInt (by rw [hn_las, hn_lbs, q.1])) | exact q.2.1.elim (fun h => by omega) c318 | exact q.2.2.elim (fun h => c324 (of_toInt (by rw [hn_las, show (1 : Int32).toInt = 1 from rfl]; omega))) c331⟩) X
          · refine k_iload G X at_321 (pc' := 323) rfl rfl ?_
            refine k_iconst G X at_323 (pc' := 324) rfl (z := (1 : Int32)) (by decide) ?_
            refine k_icmp_eq G X at_324 (pc' := 334) rfl (by decide) (pc'' := 327) rfl (fun c324 => ?_) (fun c324 => ?_)
            · refine k_iconst G X at_334 (pc' := 335) rfl (z := (1 : Int32)) (by decide) ?_
              refine k_goto G X at_335 (by decide) (pc' := 339) rfl ?_
              exact J339 T (1 : Int32) (Or.inl ⟨rfl, by have := congrArg Int32.toInt c311; omega, Or.inr c318, by first | exact Or.inr c331 | exact Or.inl (by have := congrArg Int32.toInt c324; rw [show (1 : Int32).toInt = 1 from rfl] at this; omega)⟩) X
            · refine k_iload G X at_327 (pc' := 329) rfl rfl ?_
              refine k_iload G X at_329 (pc' := 331) rfl rfl ?_
              refine k_icmp_ne G X at_331 (pc' := 338) rfl (by decide) (pc'' := 334) rfl (fun c331 => ?_) (fun c331 => ?_)
              · refine k_iconst G X at_338 (pc' := 339) rfl (z := (0 : Int32)) (by decide) ?_
                exact J339 T (0 : Int32) (Or.inr ⟨rfl, fun q => by first | exact c311 (of_toInt (by rw [hn_las, hn_lbs, q.1])) | exact q.2.1.elim (fun h => by omega) c318 | exact q.2.2.elim (fun h => c324 (of_toInt (by rw [hn_las, show (1 : Int32).toInt = 1 from rfl]; omega))) c331⟩) X
              · refine k_iconst G X at_334 (pc' := 335) rfl (z := (1 : Int32)) (by decide) ?_
                refine k_goto G X at_335 (by decide) (pc' := 339) rfl ?_
                exact J339 T (1 : Int32) (Or.inl ⟨rfl, by have := congrArg Int32.toInt c311; omega, Or.inr c318, by first | exact Or.inr c331 | exact Or.inl (by have := congrArg Int32.toInt c324; rw [show (1 : Int32).toInt = 1 from rfl] at this; omega)⟩) X
    refine k_iloadN G X at_132 (pc' := 133) rfl rfl ?_
    refine k_iconst G X at_133 (pc' := 134) rfl (z := (1 : Int32)) (by decide) ?_
    refine k_iand G X at_134 (pc' := 135) rfl rfl ?_
    refine k_if_eq G X at_135 (pc' := 142) rfl (by decide) (pc'' := 138) rfl (fun c135 => ?_) (fun c135 => ?_)
    · refine k_iconst G X at_142 (pc' := 143) rfl (z := (0 : Int32)) (by decide) ?_
      refine k_istore G X at_143 (pc' := 145) rfl (l' := #[.val (.int p0), .val (.int p1), .val (.int p2), .val (.int p3), .val (.int p4), .val (.int las), .val (.int lbs), .val (.int lan), .val (.int lbn), .val (.int sa0), .val (.int sa1), .val (.int fS), .val (.int sb0), .val (.int sb1), .val (.int na0), .val (.int na1), .val (.int (0 : Int32)), .unset, .unset, .unset, .unset, .unset, .unset, .unset, .unset, .unset, .unset, .unset, .unset, .unset]) rfl ?_
      refine k_iload G X at_145 (pc' := 147) rfl rfl ?_
      refine k_if_eq G X at_147 (pc' := 163) rfl (by decide) (pc'' := 150) rfl (fun c147 => ?_) (fun c147 => (absurd c147 (by decide)))
      refine k_iload G X at_163 (pc' := 165) rfl rfl ?_
      refine k_istore G X at_165 (pc' := 167) rfl (l' := #[.val (.int p0), .val (.int p1), .val (.int p2), .val (.int p3), .val (.int p4), .val (.int las), .val (.int lbs), .val (.int lan), .val (.int lbn), .val (.int sa0), .val (.int sa1), .val (.int fS), .val (.int sb0), .val (.int sb1), .val (.int na0), .val (.int na1), .val (.int (0 : Int32)), .val (.int na0), .unset, .unset, .unset, .unset, .unset, .unset, .unset, .unset, .unset, .unset, .unset, .unset]) rfl ?_
      refine k_iload G X at_167 (pc' := 169) rfl rfl ?_
      refine k_if_eq G X at_169 (pc' := 186) rfl (by decide) (pc'' := 172) rfl (fun c169 => ?_) (fun c169 => (absurd c169 (by decide)))
      refine k_iload G X at_186 (pc' := 188) rfl rfl ?_
      refine k_istore G X at_188 (pc' := 190) rfl (l' := #[.val (.int p0), .val (.int p1), .val (.int p2), .val (.int p3), .val (.int p4), .val (.int las), .val (.int lbs), .val (.int lan), .val (.int lbn), .val (.int sa0), .val (.int sa1), .val (.int fS), .val (.int sb0), .val (.int sb1), .val (.int na0), .val (.int na1), .val (.int (0 : Int32)), .val (.int na0), .val (.int na1), .unset, .unset, .unset, .unset, .unset, .unset, .unset, .unset, .unset, .unset, .unset]) rfl ?_
      exact J190 T (0 : Int32) na0 na1 rg_na0 rg_na1 X
    · refine k_iconst G X at_138 (pc' := 139) rfl (z := (1 : Int32)) (by decide) ?_
      refine k_goto G X at_139 (by decide) (pc' := 143) rfl ?_
      refine k_istore G X at_143 (pc' := 145) rfl (l' := #[.val (.int p0), .val (.int p1), .val (.int p2), .val (.int p3), .val (.int p4), .val (.int las), .val (.int lbs), .val (.int lan), .val (.int lbn), .val (.int sa0), .val (.int sa1), .val (.int fS), .val (.int sb0), .val (.int sb1), .val (.int na0), .val (.int na1), .val (.int (1 : Int32)), .unset, .unset, .unset, .unset, .unset, .unset, .unset, .unset, .unset, .unset, .unset, .unset, .unset]) rfl ?_
      refine k_iload G X at_145 (pc' := 147) rfl rfl ?_
      refine k_if_eq G X at_147 (pc' := 163) rfl (by decide) (pc'' := 150) rfl (fun c147 => (absurd c147 (by decide))) (fun c147 => ?_)
      refine k_iload G X at_150 (pc' := 152) rfl rfl ?_
      refine k_iloadN G X at_152 (pc' := 153) rfl rfl ?_
      refine k_iconst G X at_153 (pc' := 154) rfl (z := (1 : Int32)) (by decide) ?_
      refine k_iushr G X at_154 (pc' := 155) rfl rfl ?_
      refine k_sipush G X at_155 (pc' := 158) rfl (z := (255 : Int32)) (by decide) ?_
      refine k_iand G X at_158 (pc' := 159) rfl rfl ?_
      refine k_ixor G X at_159 (pc' := 160) rfl rfl ?_
      refine k_goto G X at_160 (by decide) (pc' := 165) rfl ?_
      refine k_istore G X at_165 (pc' := 167) rfl (l' := #[.val (.int p0), .val (.int p1), .val (.int p2), .val (.int p3), .val (.int p4), .val (.int las), .val (.int lbs), .val (.int lan), .val (.int lbn), .val (.int sa0), .val (.int sa1), .val (.int fS), .val (.int sb0), .val (.int sb1), .val (.int na0), .val (.int na1), .val (.int (1 : Int32)), .val (.int (na0 ^^^ (((p3.toUInt32 >>> ((1 : Int32) &&& 31).toUInt32).toInt32) &&& (255 : Int32)))), .unset, .unset, .unset, .unset, .unset, .unset, .unset, .unset, .unset, .unset, .unset, .unset]) rfl ?_
      refine k_iload G X at_167 (pc' := 169) rfl rfl ?_
      refine k_if_eq G X at_169 (pc' := 186) rfl (by decide) (pc'' := 172) rfl (fun c169 => (absurd c169 (by decide))) (fun c169 => ?_)
      refine k_iload G X at_172 (pc' := 174) rfl rfl ?_
      refine k_iloadN G X at_174 (pc' := 175) rfl rfl ?_
      refine k_bipush G X at_175 (pc' := 177) rfl (z := (9 : Int32)) (by decide) ?_
      refine k_iushr G X at_177 (pc' := 178) rfl rfl ?_
      refine k_sipush G X at_178 (pc' := 181) rfl (z := (255 : Int32)) (by decide) ?_
      refine k_iand G X at_181 (pc' := 182) rfl rfl ?_
      refine k_ixor G X at_182 (pc' := 183) rfl rfl ?_
      refine k_goto G X at_183 (by decide) (pc' := 188) rfl ?_
      refine k_istore G X at_188 (pc' := 190) rfl (l' := #[.val (.int p0), .val (.int p1), .val (.int p2), .val (.int p3), .val (.int p4), .val (.int las), .val (.int lbs), .val (.int lan), .val (.int lbn), .val (.int sa0), .val (.int sa1), .val (.int fS), .val (.int sb0), .val (.int sb1), .val (.int na0), .val (.int na1), .val (.int (1 : Int32)), .val (.int (na0 ^^^ (((p3.toUInt32 >>> ((1 : Int32) &&& 31).toUInt32).toInt32) &&& (255 : Int32)))), .val (.int (na1 ^^^ (((p3.toUInt32 >>> ((9 : Int32) &&& 31).toUInt32).toInt32) &&& (255 : Int32)))), .unset, .unset, .unset, .unset, .unset, .unset, .unset, .unset, .unset, .unset, .unset]) rfl ?_
      exact J190 T (1 : Int32) (na0 ^^^ (((p3.toUInt32 >>> ((1 : Int32) &&& 31).toUInt32).toInt32) &&& (255 : Int32))) (na1 ^^^ (((p3.toUInt32 >>> ((9 : Int32) &&& 31).toUInt32).toInt32) &&& (255 : Int32))) (xor_rng rg_na0 (and_rng _ 255 rfl (by decide))) (xor_rng rg_na1 (and_rng _ 255 rfl (by decide))) X
  refine k_iloadN G X at_57 (pc' := 58) rfl rfl ?_
  refine k_iconst G X at_58 (pc' := 59) rfl (z := (1 : Int32)) (by decide) ?_
  refine k_iand G X at_59 (pc' := 60) rfl rfl ?_
  refine k_if_eq G X at_60 (pc' := 67) rfl (by decide) (pc'' := 63) rfl (fun c60 => ?_) (fun c60 => ?_)
  · refine k_iconst G X at_67 (pc' := 68) rfl (z := (0 : Int32)) (by decide) ?_
    refine k_istore G X at_68 (pc' := 70) rfl (l' := #[.val (.int p0), .val (.int p1), .val (.int p2), .val (.int p3), .val (.int p4), .val (.int las), .val (.int lbs), .val (.int lan), .val (.int lbn), .val (.int sa0), .val (.int sa1), .val (.int (0 : Int32)), .unset, .unset, .unset, .unset, .unset, .unset, .unset, .unset, .unset, .unset, .unset, .unset, .unset, .unset, .unset, .unset, .unset, .unset]) rfl ?_
    refine k_iload G X at_70 (pc' := 72) rfl rfl ?_
    refine k_if_eq G X at_72 (pc' := 88) rfl (by decide) (pc'' := 75) rfl (fun c72 => ?_) (fun c72 => (absurd c72 (by decide)))
    refine k_iload G X at_88 (pc' := 90) rfl rfl ?_
    refine k_istore G X at_90 (pc' := 92) rfl (l' := #[.val (.int p0), .val (.int p1), .val (.int p2), .val (.int p3), .val (.int p4), .val (.int las), .val (.int lbs), .val (.int lan), .val (.int lbn), .val (.int sa0), .val (.int sa1), .val (.int (0 : Int32)), .val (.int sa0), .unset, .unset, .unset, .unset, .unset, .unset, .unset, .unset, .unset, .unset, .unset, .unset, .unset, .unset, .unset, .unset, .unset]) rfl ?_
    refine k_iload G X at_92 (pc' := 94) rfl rfl ?_
    refine k_if_eq G X at_94 (pc' := 111) rfl (by decide) (pc'' := 97) rfl (fun c94 => ?_) (fun c94 => (absurd c94 (by decide)))
    refine k_iload G X at_111 (pc' := 113) rfl rfl ?_
    refine k_istore G X at_113 (pc' := 115) rfl (l' := #[.val (.int p0), .val (.int p1), .val (.int p2), .val (.int p3), .val (.int p4), .val (.int las), .val (.int lbs), .val (.int lan), .val (.int lbn), .val (.int sa0), .val (.int sa1), .val (.int (0 : Int32)), .val (.int sa0), .val (.int sa1), .unset, .unset, .unset, .unset, .unset, .unset, .unset, .unset, .unset, .unset, .unset, .unset, .unset, .unset, .unset, .unset]) rfl ?_
    exact J115 T (0 : Int32) sa0 sa1 rg_sa0 rg_sa1 X
  · refine k_iconst G X at_63 (pc' := 64) rfl (z := (1 : Int32)) (by decide) ?_
    refine k_goto G X at_64 (by decide) (pc' := 68) rfl ?_
    refine k_istore G X at_68 (pc' := 70) rfl (l' := #[.val (.int p0), .val (.int p1), .val (.int p2), .val (.int p3), .val (.int p4), .val (.int las), .val (.int lbs), .val (.int lan), .val (.int lbn), .val (.int sa0), .val (.int sa1), .val (.int (1 : Int32)), .unset, .unset, .unset, .unset, .unset, .unset, .unset, .unset, .unset, .unset, .unset, .unset, .unset, .unset, .unset, .unset, .unset, .unset]) rfl ?_
    refine k_iload G X at_70 (pc' := 72) rfl rfl ?_
    refine k_if_eq G X at_72 (pc' := 88) rfl (by decide) (pc'' := 75) rfl (fun c72 => (absurd c72 (by decide))) (fun c72 => ?_)
    refine k_iload G X at_75 (pc' := 77) rfl rfl ?_
    refine k_iloadN G X at_77 (pc' := 78) rfl rfl ?_
    refine k_iconst G X at_78 (pc' := 79) rfl (z := (1 : Int32)) (by decide) ?_
    refine k_iushr G X at_79 (pc' := 80) rfl rfl ?_
    refine k_sipush G X at_80 (pc' := 83) rfl (z := (255 : Int32)) (by decide) ?_
    refine k_iand G X at_83 (pc' := 84) rfl rfl ?_
    refine k_ixor G X at_84 (pc' := 85) rfl rfl ?_
    refine k_goto G X at_85 (by decide) (pc' := 90) rfl ?_
    refine k_istore G X at_90 (pc' := 92) rfl (l' := #[.val (.int p0), .val (.int p1), .val (.int p2), .val (.int p3), .val (.int p4), .val (.int las), .val (.int lbs), .val (.int lan), .val (.int lbn), .val (.int sa0), .val (.int sa1), .val (.int (1 : Int32)), .val (.int (sa0 ^^^ (((p2.toUInt32 >>> ((1 : Int32) &&& 31).toUInt32).toInt32) &&& (255 : Int32)))), .unset, .unset, .unset, .unset, .unset, .unset, .unset, .unset, .unset, .unset, .unset, .unset, .unset, .unset, .unset, .unset, .unset]) rfl ?_
    refine k_iload G X at_92 (pc' := 94) rfl rfl ?_
    refine k_if_eq G X at_94 (pc' := 111) rfl (by decide) (pc'' := 97) rfl (fun c94 => (absurd c94 (by decide))) (fun c94 => ?_)
    refine k_iload G X at_97 (pc' := 99) rfl rfl ?_
    refine k_iloadN G X at_99 (pc' := 100) rfl rfl ?_
    refine k_bipush G X at_100 (pc' := 102) rfl (z := (9 : Int32)) (by decide) ?_
    refine k_iushr G X at_102 (pc' := 103) rfl rfl ?_
    refine k_sipush G X at_103 (pc' := 106) rfl (z := (255 : Int32)) (by decide) ?_
    refine k_iand G X at_106 (pc' := 107) rfl rfl ?_
    refine k_ixor G X at_107 (pc' := 108) rfl rfl ?_
    refine k_goto G X at_108 (by decide) (pc' := 113) rfl ?_
    refine k_istore G X at_113 (pc' := 115) rfl (l' := #[.val (.int p0), .val (.int p1), .val (.int p2), .val (.int p3), .val (.int p4), .val (.int las), .val (.int lbs), .val (.int lan), .val (.int lbn), .val (.int sa0), .val (.int sa1), .val (.int (1 : Int32)), .val (.int (sa0 ^^^ (((p2.toUInt32 >>> ((1 : Int32) &&& 31).toUInt32).toInt32) &&& (255 : Int32)))), .val (.int (sa1 ^^^ (((p2.toUInt32 >>> ((9 : Int32) &&& 31).toUInt32).toInt32) &&& (255 : Int32)))), .unset, .unset, .unset, .unset, .unset, .unset, .unset, .unset, .unset, .unset, .unset, .unset, .unset, .unset, .unset, .unset]) rfl ?_
    exact J115 T (1 : Int32) (sa0 ^^^ (((p2.toUInt32 >>> ((1 : Int32) &&& 31).toUInt32).toInt32) &&& (255 : Int32))) (sa1 ^^^ (((p2.toUInt32 >>> ((9 : Int32) &&& 31).toUInt32).toInt32) &&& (255 : Int32))) (xor_rng rg_sa0 (and_rng _ 255 rfl (by decide))) (xor_rng rg_sa1 (and_rng _ 255 rfl (by decide))) X
set_option maxRecDepth 65536 in
set_option maxHeartbeats 40000000 in
theorem comes_1 {Post : Tables → Env → Array Value → State → Outcome → State → Prop} (hpost : ∀ tb e args s v u, (limb_1_1.after args s (.returned v) u = true ∧ limb_1_2.after args s (.returned v) u = true ∧ True) → ReturnedEndW s (.returned v) u (Jvm.fieldLocs frame_1_writes args s ++ Jvm.arrayLocs frame_1_arrays args s ++ Jvm.staticLocs frame_1_statics s) 64 3392 → Post tb e args s (.returned v) u) :
    ArmFor flags0 classFile x code maxLocals ret World_1 tables_1 room_1 Calls_1 rest_1 Pre_1 Post := by
  intro l hfl _ _ p e ha hc hk s m args below hf hA hF happ hP
  obtain ⟨hcalls, hrest, hpre⟩ := hP
  obtain ⟨-, -, -, hnamed, -, -, -, hat⟩ := (Spec.applies_iff hf).mp happ
  obtain ⟨hg, hn⟩ := and_e (Cond.before_iff.mp (show (Jvm.Cond.and given_1 narrow_1).before args s = true from hpre))
  obtain ⟨hg0, hgr0⟩ := and_e hg
  obtain ⟨hg1, hgr1⟩ := and_e hgr0
  obtain ⟨hg2, hgr2⟩ := and_e hgr1
  obtain ⟨hg3, hgr3⟩ := and_e hgr2
  obtain ⟨hg4, hgr4⟩ := and_e hgr3
  obtain ⟨w0', w1', w2', w3', w4', rfl⟩ : ∃ w0' w1' w2' w3' w4' : Value, args = #[w0', w1', w2', w3', w4'] := by
    have hs : args.size = 5 := by simpa [Cond.value, given_1] using hg0
    obtain ⟨L⟩ := args
    match L, hs with
    | [w0', w1', w2', w3', w4'], _ => exact ⟨w0', w1', w2', w3', w4', rfl⟩
  have hw : HW _ s := fun d (hd : d ∈ tables_1) => atoms_spec (ws := Jvm.Cond.code x code maxLocals ret :: tables_1) hat d (List.mem_cons_of_mem _ hd)
  have hfit : Fit s := fun {y c} hc i hi => by
    obtain ⟨ha, rfl⟩ := Array.getElem?_eq_some_iff.mp hc
    have q := List.all_eq_true.mp ((Array.all_eq_true_iff_forall_mem.mp hF) _ (Array.getElem_mem ha)) i (List.mem_range.mpr hi)
    simpa [Array.getElem?_eq_getElem hi] using q
  obtain ⟨hsets, hown0⟩ := atoms_of _ (rest_1_c_eq ▸ (show rest_1_c.before _ s = true from hrest))
  have hr0 := Cond.before_iff.mp hown0
  obtain ⟨i0, ei0⟩ := is_v hg1
  obtain rfl : w0' = (.int i0) := Option.some.inj ei0
  obtain ⟨i1, ei1⟩ := is_v hg2
  obtain rfl : w1' = (.int i1) := Option.some.inj ei1
  obtain ⟨i2, ei2⟩ := is_v hg3
  obtain rfl : w2' = (.int i2) := Option.some.inj ei2
  obtain ⟨i3, ei3⟩ := is_v hg4
  obtain rfl : w3' = (.int i3) := Option.some.inj ei3
  obtain ⟨i4, ei4⟩ := is_v hgr4
  obtain rfl : w4' = (.int i4) := Option.some.inj ei4
  have hcw := (hsets _ (List.mem_of_getElem? (i := 2) rfl))
  obtain ⟨cs, S_CS, hcs⟩ := s_cs (hsets _ (List.mem_of_getElem? (i := 0) rfl)) (hsets _ (List.mem_of_getElem? (i := 1) rfl)) (hsets _ (List.mem_of_getElem? (i := 2) rfl))
  obtain ⟨n, o, h1, h2, h3, _, L, rfl, ⟨⟨_, rfl, -⟩, N⟩, -, hq⟩ := rm0 hw i0 i1 i2 i3 i4 cs s.heap s.heap.size (Old.start s) S_CS hcs l p e ha hc hk s m _ below hf ((Spec.applies_iff_loose hf).mp happ).1 ⟨rfl, State.Warmed39.refl s, rfl, CHv.start (hEW hw).choose_spec (fun p hp => hcalls.1 p hp) hcw (hw _ (List.mem_of_getElem? (i := 23) rfl)) (hw _ (List.mem_of_getElem? (i := 5) rfl)), fun x hx => by cases hx⟩ trivial
  exact ⟨n, _, h1, h2, h3, hpost _ _ _ _ _ _ ⟨Cond.after_iff.mpr rfl, Cond.after_iff.mpr (eq_i res_at (Term.int_eval (1)) rfl), trivial⟩ ⟨hq.1, hq.2.1, hq.2.2.1, (hq.2.2.2.sift fun y hy => Or.inr (N y hy)).mono (by decide) (by decide)⟩⟩
theorem main_1_1 : Claimed_1_1 := comes_1 fun _ _ _ _ _ _ h hF => ⟨h.1, hF⟩
theorem main_1_2 : Claimed_1_2 := comes_1 fun _ _ _ _ _ _ h hF => ⟨h.2.1, hF⟩
end Jvm.Pilot.@@N@@
namespace Jvm.Pilot.@@N@@
open Jvm Jvm.ClassFile Sem Op Lib Jvm.Free Jvm.Stand Jvm.Pilot.@@N@@.Jvm.D
/-! MADE BY PROGRAM (witnessworld.py) out of the Statement's table words and the real class files: 28 classes; the members and pool entries that the words name. The judged class is class 1, her method 2. -/
namespace start1
open Jvm.ClassFile
def u (s : String) : CpInfo := .utf8 (stringToUtf16 s)
/-- a pool by its gaps: so many unusable entries, then the entry; so many at the end -/
def gap : Nat → List CpInfo → List CpInfo
  | 0, r => r
  | n + 1, r => .unusable :: gap n r
def poolList (es : List (Nat × CpInfo)) (last : Nat) : List CpInfo := es.foldr (fun e r => gap e.1 (e.2 :: r)) (gap last [])
def pool (es : List (Nat × CpInfo)) (last : Nat) : Array CpInfo := ⟨poolList es last⟩
def fileOf (pool : Array CpInfo) (this : Nat) (attrs : Array Attribute := #[]) (ms : Array MethodInfo := #[]) (fl : Nat := 33) (sup : Nat := 0) (ifs : Array Nat := #[]) (fds : Array FieldInfo := #[]) : ClassFile where
  minorVersion := 0
  majorVersion := 65
  constantPool := pool
  accessFlags := fl
  thisClass := this
  superClass := sup
  interfaces := ifs
  fields := fds
  methods := ms
  attributes := attrs
def plain (name : String) (sup : Option ClassId) : Class where
  name := name
  kind := .ordinary
  loader := none
  accessFlags := 33
  super := sup
  interfaces := #[]
  cf := none
  fields := #[]
  methods := #[]
  instanceTypes := #[]
  staticTypes := #[]
  resolved := #[]
  callSites := []
  init := .initialized
  statics := none
  mirror := none

def pool0 : Array CpInfo := pool [(5, u "<init>"), (0, u "()V"), (1, .class_ 10), (1, u "java/lang/Object"), (16, u "hashCode"), (0, u "()I")] 95

def k0c0 : Code := { maxStack := 0, maxLocals := 1, code := object_method_1_code, exceptionTable := #[], attributes := #[] }
def k0m0 : Method := { name := "<init>", desc := "()V", sig := { parameters := [], returnType := none }, accessFlags := 1, code := some k0c0 }
def k0m1 : Method := { name := "hashCode", desc := "()I", sig := { parameters := [], returnType := some .int }, accessFlags := 257, code := none }
/-- java/lang/Object -/
def k0 : Class := { plain "java/lang/Object" none with
  accessFlags := 33
  interfaces := #[]
  cf := some (fileOf pool0 8 #[] #[{ accessFlags := 1, nameIndex := 5, descriptorIndex := 6, attributes := #[] }, { accessFlags := 257, nameIndex := 27, descriptorIndex := 28, attributes := #[] }] 33 0 #[] #[])
  fields := #[]
  methods := #[k0m0, k0m1]
  instanceTypes := #[]
  staticTypes := #[]
  resolved := Array.replicate 124 none
  statics := none }

def pool1 : Array CpInfo := pool [(2, .class_ 4), (1, u "java/lang/Object"), (0, u "<init>"), (0, u "()V"), (0, .class_ 8), (0, u "java/lang/String"), (0, .methodref 7 10), (0, .nameAndType 5 11), (0, u "([C)V"), (0, .methodref 13 14), (0, .class_ 15), (0, .nameAndType 16 17), (0, u "com/example/changeline/changeline/change/TableNameEqualsPinLaw"), (0, u "mk"), (0, u "(III)Ljava/lang/String;"), (0, .class_ 19), (0, u "com/example/changeline/changeline/change/TableName"), (0, .methodref 18 21), (0, .nameAndType 5 22), (0, u "(Ljava/lang/String;Ljava/lang/String;)V"), (0, .methodref 18 24), (0, .nameAndType 25 26), (0, u "equals"), (0, u "(Ljava/lang/Object;)Z"), (3, u "law"), (0, u "(IIIII)Z")] 2

def k1m0 : Method := { name := "<init>", desc := "()V", sig := { parameters := [], returnType := none }, accessFlags := 1, code := none }
def k1c1 : Code := { maxStack := 6, maxLocals := 3, code := method_2_code, exceptionTable := #[], attributes := #[] }
def k1m1 : Method := { name := "mk", desc := "(III)Ljava/lang/String;", sig := { parameters := [.int, .int, .int], returnType := some (.object "java/lang/String") }, accessFlags := 10, code := some k1c1 }
def k1c2 : Code := { maxStack := 4, maxLocals := 30, code := code, exceptionTable := #[], attributes := #[] }
def k1m2 : Method := { name := "law", desc := "(IIIII)Z", sig := { parameters := [.int, .int, .int, .int, .int], returnType := some .boolean }, accessFlags := 9, code := some k1c2 }
/-- com/example/changeline/changeline/change/TableNameEqualsPinLaw -/
def k1 : Class := { plain "com/example/changeline/changeline/change/TableNameEqualsPinLaw" (some 0) with
  accessFlags := 49
  interfaces := #[]
  cf := some (fileOf pool1 13 #[] #[{ accessFlags := 1, nameIndex := 5, descriptorIndex := 6, attributes := #[] }, { accessFlags := 10, nameIndex := 16, descriptorIndex := 17, attributes := #[] }, { accessFlags := 9, nameIndex := 30, descriptorIndex := 31, attributes := #[] }] 49 2 #[] #[])
  fields := #[]
  methods := #[k1m0, k1m1, k1m2]
  instanceTypes := #[]
  staticTypes := #[]
  resolved := Array.replicate 34 none
  statics := none }

def pool2 : Array CpInfo := pool [(1, .class_ 2), (0, u "java/io/Serializable"), (0, .class_ 4), (0, u "java/lang/Object")] 2

/-- java/io/Serializable -/
def k2 : Class := { plain "java/io/Serializable" (some 0) with
  accessFlags := 1537
  interfaces := #[]
  cf := some (fileOf pool2 1 #[] #[] 1537 3 #[] #[])
  fields := #[]
  methods := #[]
  instanceTypes := #[]
  staticTypes := #[]
  resolved := Array.replicate 7 none
  statics := none }

def pool3 : Array CpInfo := pool [(1, .class_ 2), (0, u "java/lang/Comparable"), (0, .class_ 4), (0, u "java/lang/Object")] 7

/-- java/lang/Comparable -/
def k3 : Class := { plain "java/lang/Comparable" (some 0) with
  accessFlags := 1537
  interfaces := #[]
  cf := some (fileOf pool3 1 #[] #[] 1537 3 #[] #[])
  fields := #[]
  methods := #[]
  instanceTypes := #[]
  staticTypes := #[]
  resolved := Array.replicate 12 none
  statics := none }

def pool4 : Array CpInfo := pool [(2, .class_ 4), (1, u "java/lang/CharSequence"), (42, .class_ 48), (0, u "java/lang/CharSequence$1CodePointIterator"), (10, .class_ 60), (0, u "java/lang/CharSequence$1CharIterator"), (5, .class_ 67), (0, u "java/lang/Object")] 63

/-- java/lang/CharSequence -/
def k4 : Class := { plain "java/lang/CharSequence" (some 0) with
  accessFlags := 1537
  interfaces := #[]
  cf := some (fileOf pool4 2 #[.nestMembers #[47, 59]] #[] 1537 66 #[] #[])
  fields := #[]
  methods := #[]
  instanceTypes := #[]
  staticTypes := #[]
  resolved := Array.replicate 131 none
  statics := none }

def pool5 : Array CpInfo := pool [(1, .class_ 2), (0, u "java/lang/constant/Constable"), (0, .class_ 4), (0, u "java/lang/Object")] 6

/-- java/lang/constant/Constable -/
def k5 : Class := { plain "java/lang/constant/Constable" (some 0) with
  accessFlags := 1537
  interfaces := #[]
  cf := some (fileOf pool5 1 #[] #[] 1537 3 #[] #[])
  fields := #[]
  methods := #[]
  instanceTypes := #[]
  staticTypes := #[]
  resolved := Array.replicate 11 none
  statics := none }

def pool6 : Array CpInfo := pool [(1, .class_ 2), (0, u "java/lang/constant/ConstantDesc"), (0, .class_ 4), (0, u "java/lang/Object")] 32

/-- java/lang/constant/ConstantDesc -/
def k6 : Class := { plain "java/lang/constant/ConstantDesc" (some 0) with
  accessFlags := 1537
  interfaces := #[]
  cf := some (fileOf pool6 1 #[] #[] 1537 3 #[] #[])
  fields := #[]
  methods := #[]
  instanceTypes := #[]
  staticTypes := #[]
  resolved := Array.replicate 37 none
  statics := none }

def pool7 : Array CpInfo := pool [(1, .methodref 2 3), (0, .class_ 4), (0, .nameAndType 5 6), (0, u "java/lang/Object"), (0, u "<init>"), (0, u "()V"), (2, .fieldref 10 11), (0, .class_ 12), (0, .nameAndType 13 14), (0, u "java/lang/String"), (0, u "value"), (0, u "[B"), (0, .fieldref 10 16), (0, .nameAndType 17 18), (0, u "coder"), (0, u "B"), (0, .fieldref 10 20), (0, .nameAndType 21 22), (0, u "hash"), (0, u "I"), (0, .fieldref 10 24), (0, .nameAndType 25 26), (0, u "hashIsZero"), (0, u "Z"), (0, .methodref 10 28), (0, .nameAndType 5 29), (0, u "([CIILjava/lang/Void;)V"), (8, .fieldref 10 39), (0, .nameAndType 40 26), (0, u "COMPACT_STRINGS"), (1, .class_ 44), (1, u "java/lang/StringUTF16"), (0, u "compress"), (1, .methodref 42 48), (0, .nameAndType 49 50), (0, u "coderFromArrayLen"), (0, u "([BI)B"), (3, .methodref 55 56), (0, .class_ 57), (0, .nameAndType 58 59), (0, u "java/util/Arrays"), (0, u "copyOfRange"), (0, u "([BII)[B"), (47, .class_ 109), (1, u "java/lang/StringLatin1"), (32, u "()Z"), (34, .methodref 42 178), (0, .nameAndType 45 179), (0, u "([CII)[B"), (13, .class_ 195), (1, u "java/lang/System"), (16, .methodref 193 213), (0, .nameAndType 214 215), (0, u "arraycopy"), (0, u "(Ljava/lang/Object;ILjava/lang/Object;II)V"), (118, u "()I"), (0, .methodref 10 336), (0, .nameAndType 17 337), (0, u "()B"), (2, u "()[B"), (148, .methodref 10 490), (0, .nameAndType 5 491), (0, u "(Ljava/lang/AbstractStringBuilder;Ljava/lang/Void;)V"), (0, .methodref 10 493), (0, .nameAndType 494 142), (0, u "isLatin1"), (11, .nameAndType 507 334), (0, u "length"), (24, u "getBytes"), (8, .methodref 107 542), (0, .nameAndType 543 544), (0, u "equals"), (0, u "([B[B)Z"), (4, .methodref 550 506), (0, .class_ 551), (0, u "java/lang/AbstractStringBuilder"), (0, .methodref 550 553), (0, .nameAndType 554 340), (0, u "getValue"), (18, u "(Ljava/lang/Object;)Z"), (1, .class_ 576), (0, u "java/lang/CharSequence"), (22, u "CASE_INSENSITIVE_ORDER"), (0, u "Ljava/util/Comparator;"), (27, .methodref 107 629), (0, .nameAndType 630 631), (0, u "hashCode"), (0, u "([B)I"), (60, u "isEmpty"), (128, u "([BIB)V"), (188, u "([C)V"), (36, .methodref 550 493), (53, u "serialPersistentFields"), (0, u "[Ljava/io/ObjectStreamField;"), (0, .class_ 1104), (0, u "java/lang/String$CaseInsensitiveComparator"), (1, .class_ 1107), (0, u "java/io/Serializable"), (0, .class_ 1109), (0, u "java/lang/Comparable"), (0, .class_ 1111), (0, u "java/lang/constant/Constable"), (0, .class_ 1113), (0, u "java/lang/constant/ConstantDesc"), (2, u "serialVersionUID"), (0, u "J"), (3, u "REPL"), (0, u "C"), (2, u "LATIN1"), (1, u "UTF16"), (105, u "(Ljava/lang/StringBuilder;)V")] 217

def k7m0 : Method := { name := "<init>", desc := "()V", sig := { parameters := [], returnType := none }, accessFlags := 1, code := none }
def k7c1 : Code := { maxStack := 5, maxLocals := 2, code := jdk_42_method_3_code, exceptionTable := #[], attributes := #[] }
def k7m1 : Method := { name := "<init>", desc := "([C)V", sig := { parameters := [(.array .char)], returnType := none }, accessFlags := 1, code := some k7c1 }
def k7c2 : Code := { maxStack := 3, maxLocals := 2, code := jdk_42_method_53_code, exceptionTable := #[], attributes := #[] }
def k7m2 : Method := { name := "<init>", desc := "(Ljava/lang/StringBuilder;)V", sig := { parameters := [(.object "java/lang/StringBuilder")], returnType := none }, accessFlags := 1, code := some k7c2 }
def k7c3 : Code := { maxStack := 2, maxLocals := 1, code := jdk_42_method_54_code, exceptionTable := #[], attributes := #[] }
def k7m3 : Method := { name := "length", desc := "()I", sig := { parameters := [], returnType := some .int }, accessFlags := 1, code := some k7c3 }
def k7c4 : Code := { maxStack := 1, maxLocals := 1, code := jdk_42_method_55_code, exceptionTable := #[], attributes := #[] }
def k7m4 : Method := { name := "isEmpty", desc := "()Z", sig := { parameters := [], returnType := some .boolean }, accessFlags := 1, code := some k7c4 }
def k7c5 : Code := { maxStack := 2, maxLocals := 3, code := jdk_42_method_66_code, exceptionTable := #[], attributes := #[] }
def k7m5 : Method := { name := "equals", desc := "(Ljava/lang/Object;)Z", sig := { parameters := [(.object "java/lang/Object")], returnType := some .boolean }, accessFlags := 1, code := some k7c5 }
def k7c6 : Code := { maxStack := 2, maxLocals := 2, code := jdk_42_method_78_code, exceptionTable := #[], attributes := #[] }
def k7m6 : Method := { name := "hashCode", desc := "()I", sig := { parameters := [], returnType := some .int }, accessFlags := 1, code := some k7c6 }
def k7c7 : Code := { maxStack := 5, maxLocals := 4, code := jdk_42_method_147_code, exceptionTable := #[], attributes := #[] }
def k7m7 : Method := { name := "getBytes", desc := "([BIB)V", sig := { parameters := [(.array .byte), .int, .byte], returnType := none }, accessFlags := 0, code := some k7c7 }
def k7c8 : Code := { maxStack := 4, maxLocals := 6, code := jdk_42_method_149_code, exceptionTable := #[], attributes := #[] }
def k7m8 : Method := { name := "<init>", desc := "([CIILjava/lang/Void;)V", sig := { parameters := [(.array .char), .int, .int, (.object "java/lang/Void")], returnType := none }, accessFlags := 2, code := some k7c8 }
def k7c9 : Code := { maxStack := 5, maxLocals := 5, code := jdk_42_method_150_code, exceptionTable := #[], attributes := #[] }
def k7m9 : Method := { name := "<init>", desc := "(Ljava/lang/AbstractStringBuilder;Ljava/lang/Void;)V", sig := { parameters := [(.object "java/lang/AbstractStringBuilder"), (.object "java/lang/Void")], returnType := none }, accessFlags := 0, code := some k7c9 }
def k7c10 : Code := { maxStack := 1, maxLocals := 1, code := jdk_42_method_152_code, exceptionTable := #[], attributes := #[] }
def k7m10 : Method := { name := "coder", desc := "()B", sig := { parameters := [], returnType := some .byte }, accessFlags := 0, code := some k7c10 }
def k7c11 : Code := { maxStack := 1, maxLocals := 1, code := jdk_42_method_154_code, exceptionTable := #[], attributes := #[] }
def k7m11 : Method := { name := "isLatin1", desc := "()Z", sig := { parameters := [], returnType := some .boolean }, accessFlags := 0, code := some k7c11 }
/-- java/lang/String -/
def k7 : Class := { plain "java/lang/String" (some 0) with
  accessFlags := 49
  interfaces := #[2, 3, 4, 5, 6]
  cf := some (fileOf pool7 10 #[.nestMembers #[1103]] #[{ accessFlags := 1, nameIndex := 5, descriptorIndex := 6, attributes := #[] }, { accessFlags := 1, nameIndex := 5, descriptorIndex := 1010, attributes := #[] }, { accessFlags := 1, nameIndex := 5, descriptorIndex := 1233, attributes := #[] }, { accessFlags := 1, nameIndex := 507, descriptorIndex := 334, attributes := #[] }, { accessFlags := 1, nameIndex := 692, descriptorIndex := 142, attributes := #[] }, { accessFlags := 1, nameIndex := 543, descriptorIndex := 573, attributes := #[] }, { accessFlags := 1, nameIndex := 630, descriptorIndex := 334, attributes := #[] }, { accessFlags := 0, nameIndex := 532, descriptorIndex := 821, attributes := #[] }, { accessFlags := 2, nameIndex := 5, descriptorIndex := 29, attributes := #[] }, { accessFlags := 0, nameIndex := 5, descriptorIndex := 491, attributes := #[] }, { accessFlags := 0, nameIndex := 17, descriptorIndex := 337, attributes := #[] }, { accessFlags := 0, nameIndex := 494, descriptorIndex := 142, attributes := #[] }] 49 2 #[1106, 1108, 575, 1110, 1112] #[{ accessFlags := 18, nameIndex := 13, descriptorIndex := 14, attributes := #[] }, { accessFlags := 18, nameIndex := 17, descriptorIndex := 18, attributes := #[] }, { accessFlags := 2, nameIndex := 21, descriptorIndex := 22, attributes := #[] }, { accessFlags := 2, nameIndex := 25, descriptorIndex := 26, attributes := #[] }, { accessFlags := 26, nameIndex := 1116, descriptorIndex := 1117, attributes := #[] }, { accessFlags := 24, nameIndex := 40, descriptorIndex := 26, attributes := #[] }, { accessFlags := 26, nameIndex := 1101, descriptorIndex := 1102, attributes := #[] }, { accessFlags := 26, nameIndex := 1121, descriptorIndex := 1122, attributes := #[] }, { accessFlags := 25, nameIndex := 599, descriptorIndex := 600, attributes := #[] }, { accessFlags := 24, nameIndex := 1125, descriptorIndex := 18, attributes := #[] }, { accessFlags := 24, nameIndex := 1127, descriptorIndex := 18, attributes := #[] }])
  fields := #[{ name := "value", type := (.array .byte), accessFlags := 18, slot := 0, constantValue := 0 }, { name := "coder", type := .byte, accessFlags := 18, slot := 1, constantValue := 0 }, { name := "hash", type := .int, accessFlags := 2, slot := 2, constantValue := 0 }, { name := "hashIsZero", type := .boolean, accessFlags := 2, slot := 3, constantValue := 0 }, { name := "serialVersionUID", type := .long, accessFlags := 26, slot := 0, constantValue := 0 }, { name := "COMPACT_STRINGS", type := .boolean, accessFlags := 24, slot := 1, constantValue := 0 }, { name := "serialPersistentFields", type := (.array (.object "java/io/ObjectStreamField")), accessFlags := 26, slot := 2, constantValue := 0 }, { name := "REPL", type := .char, accessFlags := 26, slot := 3, constantValue := 0 }, { name := "CASE_INSENSITIVE_ORDER", type := (.object "java/util/Comparator"), accessFlags := 25, slot := 4, constantValue := 0 }, { name := "LATIN1", type := .byte, accessFlags := 24, slot := 5, constantValue := 0 }, { name := "UTF16", type := .byte, accessFlags := 24, slot := 6, constantValue := 0 }]
  methods := #[k7m0, k7m1, k7m2, k7m3, k7m4, k7m5, k7m6, k7m7, k7m8, k7m9, k7m10, k7m11]
  instanceTypes := #[(.array .byte), .byte, .int, .boolean]
  staticTypes := #[.long, .boolean, (.array (.object "java/io/ObjectStreamField")), .char, (.object "java/util/Comparator"), .byte, .byte]
  resolved := Array.replicate 1451 none
  statics := some 0 }

def pool8 : Array CpInfo := pool [(6, .class_ 8), (1, u "java/lang/Object"), (0, u "<init>"), (0, u "()V"), (1, .class_ 14), (1, u "java/lang/StringUTF16"), (31, u "$assertionsDisabled"), (0, u "Z"), (13, u "HI_BYTE_SHIFT"), (0, u "I"), (2, u "LO_BYTE_SHIFT"), (49, .methodref 12 116), (0, .nameAndType 117 118), (0, u "compress"), (0, u "([CI[BII)I"), (3, u "([CII)[B"), (138, u "coderFromArrayLen"), (0, u "([BI)B"), (106, .class_ 371), (1, u "java/lang/StringUTF16$LinesSpliterator"), (58, u "MAX_LENGTH"), (196, .class_ 628), (0, u "java/lang/StringUTF16$CodePointsSpliterator"), (0, .class_ 630), (0, u "java/lang/StringUTF16$CharsSpliterator")] 4

def k8m0 : Method := { name := "<init>", desc := "()V", sig := { parameters := [], returnType := none }, accessFlags := 0, code := none }
def k8c1 : Code := { maxStack := 2, maxLocals := 2, code := jdk_52_method_15_code, exceptionTable := #[], attributes := #[] }
def k8m1 : Method := { name := "coderFromArrayLen", desc := "([BI)B", sig := { parameters := [(.array .byte), .int], returnType := some .byte }, accessFlags := 8, code := some k8c1 }
def k8c2 : Code := { maxStack := 5, maxLocals := 6, code := jdk_52_method_16_code, exceptionTable := #[], attributes := #[] }
def k8m2 : Method := { name := "compress", desc := "([CII)[B", sig := { parameters := [(.array .char), .int, .int], returnType := some (.array .byte) }, accessFlags := 9, code := some k8c2 }
def k8c3 : Code := { maxStack := 3, maxLocals := 7, code := jdk_52_method_21_code, exceptionTable := #[], attributes := #[] }
def k8m3 : Method := { name := "compress", desc := "([CI[BII)I", sig := { parameters := [(.array .char), .int, (.array .byte), .int, .int], returnType := some .int }, accessFlags := 9, code := some k8c3 }
/-- java/lang/StringUTF16 -/
def k8 : Class := { plain "java/lang/StringUTF16" (some 0) with
  accessFlags := 48
  interfaces := #[]
  cf := some (fileOf pool8 12 #[.nestMembers #[627, 629, 369]] #[{ accessFlags := 0, nameIndex := 9, descriptorIndex := 10, attributes := #[] }, { accessFlags := 8, nameIndex := 261, descriptorIndex := 262, attributes := #[] }, { accessFlags := 9, nameIndex := 117, descriptorIndex := 122, attributes := #[] }, { accessFlags := 9, nameIndex := 117, descriptorIndex := 118, attributes := #[] }] 48 6 #[] #[{ accessFlags := 26, nameIndex := 61, descriptorIndex := 62, attributes := #[] }, { accessFlags := 26, nameIndex := 65, descriptorIndex := 62, attributes := #[] }, { accessFlags := 24, nameIndex := 430, descriptorIndex := 62, attributes := #[] }, { accessFlags := 4120, nameIndex := 46, descriptorIndex := 47, attributes := #[] }])
  fields := #[{ name := "HI_BYTE_SHIFT", type := .int, accessFlags := 26, slot := 0, constantValue := 0 }, { name := "LO_BYTE_SHIFT", type := .int, accessFlags := 26, slot := 1, constantValue := 0 }, { name := "MAX_LENGTH", type := .int, accessFlags := 24, slot := 2, constantValue := 0 }, { name := "$assertionsDisabled", type := .boolean, accessFlags := 4120, slot := 3, constantValue := 0 }]
  methods := #[k8m0, k8m1, k8m2, k8m3]
  instanceTypes := #[]
  staticTypes := #[.int, .int, .int, .boolean]
  resolved := Array.replicate 635 none
  statics := none }

def pool9 : Array CpInfo := pool [(1, .methodref 2 3), (0, .class_ 4), (0, .nameAndType 5 6), (0, u "java/lang/Object"), (0, u "<init>"), (0, u "()V"), (0, .string 8), (0, u "schema"), (0, .methodref 10 11), (0, .class_ 12), (0, .nameAndType 13 14), (0, u "java/util/Objects"), (0, u "requireNonNull"), (0, u "(Ljava/lang/Object;Ljava/lang/String;)Ljava/lang/Object;"), (0, .string 16), (0, u "name"), (0, .methodref 18 19), (0, .class_ 20), (0, .nameAndType 21 22), (0, u "java/lang/String"), (0, u "isEmpty"), (0, u "()Z"), (7, .fieldref 31 32), (0, .class_ 33), (0, .nameAndType 8 34), (0, u "com/example/changeline/changeline/change/TableName"), (0, u "Ljava/lang/String;"), (0, .fieldref 31 36), (0, .nameAndType 16 34), (0, .class_ 38), (0, u "java/lang/StringBuilder"), (0, .methodref 37 3), (0, .methodref 37 41), (0, .nameAndType 42 43), (0, u "append"), (0, u "(Ljava/lang/String;)Ljava/lang/StringBuilder;"), (0, .string 45), (0, u "."), (0, .methodref 37 47), (0, .nameAndType 48 49), (0, u "toString"), (0, u "()Ljava/lang/String;"), (0, .fieldref 31 51), (0, .nameAndType 52 34), (0, u "text"), (0, .methodref 10 54), (0, .nameAndType 55 56), (0, u "hash"), (0, u "([Ljava/lang/Object;)I"), (0, .fieldref 31 58), (0, .nameAndType 55 59), (0, u "I"), (21, u "(Ljava/lang/String;Ljava/lang/String;)V"), (0, .methodref 18 83), (0, .nameAndType 84 85), (0, u "equals"), (0, u "(Ljava/lang/Object;)Z")] 8

def k9c0 : Code := { maxStack := 5, maxLocals := 3, code := prog_13_method_1_code, exceptionTable := #[], attributes := #[] }
def k9m0 : Method := { name := "<init>", desc := "(Ljava/lang/String;Ljava/lang/String;)V", sig := { parameters := [(.object "java/lang/String"), (.object "java/lang/String")], returnType := none }, accessFlags := 1, code := some k9c0 }
def k9c1 : Code := { maxStack := 2, maxLocals := 3, code := prog_13_method_5_code, exceptionTable := #[], attributes := #[] }
def k9m1 : Method := { name := "equals", desc := "(Ljava/lang/Object;)Z", sig := { parameters := [(.object "java/lang/Object")], returnType := some .boolean }, accessFlags := 1, code := some k9c1 }
/-- com/example/changeline/changeline/change/TableName -/
def k9 : Class := { plain "com/example/changeline/changeline/change/TableName" (some 0) with
  accessFlags := 49
  interfaces := #[]
  cf := some (fileOf pool9 31 #[] #[{ accessFlags := 1, nameIndex := 5, descriptorIndex := 81, attributes := #[] }, { accessFlags := 1, nameIndex := 84, descriptorIndex := 85, attributes := #[] }] 49 2 #[] #[{ accessFlags := 18, nameIndex := 8, descriptorIndex := 34, attributes := #[] }, { accessFlags := 18, nameIndex := 16, descriptorIndex := 34, attributes := #[] }, { accessFlags := 18, nameIndex := 52, descriptorIndex := 34, attributes := #[] }, { accessFlags := 18, nameIndex := 55, descriptorIndex := 59, attributes := #[] }])
  fields := #[{ name := "schema", type := (.object "java/lang/String"), accessFlags := 18, slot := 0, constantValue := 0 }, { name := "name", type := (.object "java/lang/String"), accessFlags := 18, slot := 1, constantValue := 0 }, { name := "text", type := (.object "java/lang/String"), accessFlags := 18, slot := 2, constantValue := 0 }, { name := "hash", type := .int, accessFlags := 18, slot := 3, constantValue := 0 }]
  methods := #[k9m0, k9m1]
  instanceTypes := #[(.object "java/lang/String"), (.object "java/lang/String"), (.object "java/lang/String"), .int]
  staticTypes := #[]
  resolved := Array.replicate 94 none
  statics := none }

def pool10 : Array CpInfo := pool [(2, .class_ 4), (1, u "java/lang/Object"), (0, u "<init>"), (0, u "()V"), (12, .class_ 21), (1, u "java/util/Arrays"), (4, u "hashCode"), (1, .methodref 19 29), (0, .nameAndType 26 30), (0, u "([Ljava/lang/Object;)I"), (11, .class_ 44), (1, u "java/util/Objects"), (0, u "requireNonNull"), (48, u "(Ljava/lang/Object;Ljava/lang/String;)Ljava/lang/Object;"), (42, u "hash")] 46

def k10m0 : Method := { name := "<init>", desc := "()V", sig := { parameters := [], returnType := none }, accessFlags := 2, code := none }
def k10c1 : Code := { maxStack := 1, maxLocals := 1, code := jdk_31_method_5_code, exceptionTable := #[], attributes := #[] }
def k10m1 : Method := { name := "hash", desc := "([Ljava/lang/Object;)I", sig := { parameters := [(.array (.object "java/lang/Object"))], returnType := some .int }, accessFlags := 137, code := some k10c1 }
def k10c2 : Code := { maxStack := 3, maxLocals := 2, code := jdk_31_method_11_code, exceptionTable := #[], attributes := #[] }
def k10m2 : Method := { name := "requireNonNull", desc := "(Ljava/lang/Object;Ljava/lang/String;)Ljava/lang/Object;", sig := { parameters := [(.object "java/lang/Object"), (.object "java/lang/String")], returnType := some (.object "java/lang/Object") }, accessFlags := 9, code := some k10c2 }
/-- java/util/Objects -/
def k10 : Class := { plain "java/util/Objects" (some 0) with
  accessFlags := 49
  interfaces := #[]
  cf := some (fileOf pool10 42 #[] #[{ accessFlags := 2, nameIndex := 5, descriptorIndex := 6, attributes := #[] }, { accessFlags := 137, nameIndex := 137, descriptorIndex := 30, attributes := #[] }, { accessFlags := 9, nameIndex := 45, descriptorIndex := 94, attributes := #[] }] 49 2 #[] #[])
  fields := #[]
  methods := #[k10m0, k10m1, k10m2]
  instanceTypes := #[]
  staticTypes := #[]
  resolved := Array.replicate 184 none
  statics := none }

def pool11 : Array CpInfo := pool [(1, .class_ 2), (0, u "java/lang/Appendable"), (0, .class_ 4), (0, u "java/lang/Object")] 9

/-- java/lang/Appendable -/
def k11 : Class := { plain "java/lang/Appendable" (some 0) with
  accessFlags := 1537
  interfaces := #[]
  cf := some (fileOf pool11 1 #[] #[] 1537 3 #[] #[])
  fields := #[]
  methods := #[]
  instanceTypes := #[]
  staticTypes := #[]
  resolved := Array.replicate 14 none
  statics := none }

def pool12 : Array CpInfo := pool [(1, .class_ 2), (0, u "java/lang/String"), (0, .methodref 4 5), (0, .class_ 6), (0, .nameAndType 7 8), (0, u "java/lang/Object"), (0, u "<init>"), (0, u "()V"), (1, .class_ 12), (1, u "java/lang/AbstractStringBuilder"), (0, u "EMPTYVALUE"), (0, u "[B"), (0, .fieldref 10 16), (0, .nameAndType 17 14), (0, u "value"), (0, .fieldref 1 19), (0, .nameAndType 20 21), (0, u "COMPACT_STRINGS"), (0, u "Z"), (0, .fieldref 10 23), (0, .nameAndType 24 25), (0, u "coder"), (0, u "B"), (6, .methodref 1 33), (0, .nameAndType 34 35), (0, u "length"), (0, u "()I"), (4, .methodref 1 41), (0, .nameAndType 24 42), (0, u "()B"), (2, u "append"), (0, u "(Ljava/lang/String;)Ljava/lang/AbstractStringBuilder;"), (1, .class_ 49), (0, u "java/lang/CharSequence"), (19, u "(Ljava/lang/String;)V"), (5, u "maybeLatin1"), (3, .fieldref 10 80), (0, .nameAndType 81 82), (0, u "count"), (0, u "I"), (2, u "isLatin1"), (0, u "()Z"), (13, .methodref 10 101), (0, .nameAndType 102 103), (0, u "ensureCapacityInternal"), (0, u "(I)V"), (104, .methodref 10 209), (0, .nameAndType 210 211), (0, u "putStringAt"), (0, u "(ILjava/lang/String;)V"), (5, u "inflateIfNeededFor"), (2, .nameAndType 221 222), (0, u "getBytes"), (0, u "([BIB)V"), (174, .methodref 10 398), (0, .nameAndType 217 69), (0, .methodref 1 220), (3, u "()[B"), (40, .class_ 445), (0, u "java/lang/Appendable"), (106, u "getValue")] 56

def k12m0 : Method := { name := "<init>", desc := "()V", sig := { parameters := [], returnType := none }, accessFlags := 0, code := none }
def k12c1 : Code := { maxStack := 2, maxLocals := 2, code := jdk_68_method_2_code, exceptionTable := #[], attributes := #[] }
def k12m1 : Method := { name := "<init>", desc := "(I)V", sig := { parameters := [.int], returnType := none }, accessFlags := 0, code := some k12c1 }
def k12c2 : Code := { maxStack := 1, maxLocals := 1, code := jdk_68_method_6_code, exceptionTable := #[], attributes := #[] }
def k12m2 : Method := { name := "length", desc := "()I", sig := { parameters := [], returnType := some .int }, accessFlags := 1, code := some k12c2 }
def k12c3 : Code := { maxStack := 4, maxLocals := 3, code := jdk_68_method_9_code, exceptionTable := #[], attributes := #[] }
def k12m3 : Method := { name := "ensureCapacityInternal", desc := "(I)V", sig := { parameters := [.int], returnType := none }, accessFlags := 2, code := some k12c3 }
def k12c4 : Code := { maxStack := 3, maxLocals := 3, code := jdk_68_method_22_code, exceptionTable := #[], attributes := #[] }
def k12m4 : Method := { name := "append", desc := "(Ljava/lang/String;)Ljava/lang/AbstractStringBuilder;", sig := { parameters := [(.object "java/lang/String")], returnType := some (.object "java/lang/AbstractStringBuilder") }, accessFlags := 1, code := some k12c4 }
def k12c5 : Code := { maxStack := 1, maxLocals := 1, code := jdk_68_method_64_code, exceptionTable := #[], attributes := #[] }
def k12m5 : Method := { name := "getValue", desc := "()[B", sig := { parameters := [], returnType := some (.array .byte) }, accessFlags := 16, code := some k12c5 }
def k12c6 : Code := { maxStack := 1, maxLocals := 1, code := jdk_68_method_68_code, exceptionTable := #[], attributes := #[] }
def k12m6 : Method := { name := "isLatin1", desc := "()Z", sig := { parameters := [], returnType := some .boolean }, accessFlags := 16, code := some k12c6 }
def k12c7 : Code := { maxStack := 2, maxLocals := 2, code := jdk_68_method_71_code, exceptionTable := #[], attributes := #[] }
def k12m7 : Method := { name := "inflateIfNeededFor", desc := "(Ljava/lang/String;)V", sig := { parameters := [(.object "java/lang/String")], returnType := none }, accessFlags := 2, code := some k12c7 }
def k12c8 : Code := { maxStack := 4, maxLocals := 3, code := jdk_68_method_73_code, exceptionTable := #[], attributes := #[] }
def k12m8 : Method := { name := "putStringAt", desc := "(ILjava/lang/String;)V", sig := { parameters := [.int, (.object "java/lang/String")], returnType := none }, accessFlags := 2, code := some k12c8 }
/-- java/lang/AbstractStringBuilder -/
def k12 : Class := { plain "java/lang/AbstractStringBuilder" (some 0) with
  accessFlags := 1056
  interfaces := #[11, 4]
  cf := some (fileOf pool12 10 #[] #[{ accessFlags := 0, nameIndex := 7, descriptorIndex := 8, attributes := #[] }, { accessFlags := 0, nameIndex := 7, descriptorIndex := 103, attributes := #[] }, { accessFlags := 1, nameIndex := 34, descriptorIndex := 35, attributes := #[] }, { accessFlags := 2, nameIndex := 102, descriptorIndex := 103, attributes := #[] }, { accessFlags := 1, nameIndex := 45, descriptorIndex := 46, attributes := #[] }, { accessFlags := 16, nameIndex := 552, descriptorIndex := 403, attributes := #[] }, { accessFlags := 16, nameIndex := 85, descriptorIndex := 86, attributes := #[] }, { accessFlags := 2, nameIndex := 217, descriptorIndex := 69, attributes := #[] }, { accessFlags := 2, nameIndex := 210, descriptorIndex := 211, attributes := #[] }] 1056 4 #[444, 48] #[{ accessFlags := 0, nameIndex := 17, descriptorIndex := 14, attributes := #[] }, { accessFlags := 0, nameIndex := 24, descriptorIndex := 25, attributes := #[] }, { accessFlags := 0, nameIndex := 75, descriptorIndex := 21, attributes := #[] }, { accessFlags := 0, nameIndex := 81, descriptorIndex := 82, attributes := #[] }, { accessFlags := 26, nameIndex := 13, descriptorIndex := 14, attributes := #[] }])
  fields := #[{ name := "value", type := (.array .byte), accessFlags := 0, slot := 0, constantValue := 0 }, { name := "coder", type := .byte, accessFlags := 0, slot := 1, constantValue := 0 }, { name := "maybeLatin1", type := .boolean, accessFlags := 0, slot := 2, constantValue := 0 }, { name := "count", type := .int, accessFlags := 0, slot := 3, constantValue := 0 }, { name := "EMPTYVALUE", type := (.array .byte), accessFlags := 26, slot := 0, constantValue := 0 }]
  methods := #[k12m0, k12m1, k12m2, k12m3, k12m4, k12m5, k12m6, k12m7, k12m8]
  instanceTypes := #[(.array .byte), .byte, .boolean, .int]
  staticTypes := #[(.array .byte)]
  resolved := Array.replicate 609 none
  statics := none }

def pool13 : Array CpInfo := pool [(1, .methodref 2 3), (0, .class_ 4), (0, .nameAndType 5 6), (0, u "java/lang/AbstractStringBuilder"), (0, u "<init>"), (0, u "(I)V"), (11, .class_ 20), (1, u "java/lang/String"), (3, .class_ 26), (1, u "java/lang/StringBuilder"), (0, u "append"), (0, u "(Ljava/lang/String;)Ljava/lang/StringBuilder;"), (0, .methodref 2 30), (0, .nameAndType 27 31), (0, u "(Ljava/lang/String;)Ljava/lang/AbstractStringBuilder;"), (105, .methodref 18 138), (0, .nameAndType 5 139), (0, u "(Ljava/lang/StringBuilder;)V"), (5, u "()V"), (10, u "()I"), (186, .methodref 2 344), (0, .nameAndType 345 156), (0, u "length"), (3, .class_ 350), (0, u "java/lang/Appendable"), (0, .class_ 352), (0, u "java/io/Serializable"), (0, .class_ 354), (0, u "java/lang/Comparable"), (0, .class_ 356), (0, u "java/lang/CharSequence"), (0, u "serialVersionUID"), (0, u "J"), (40, u "toString"), (0, u "()Ljava/lang/String;")] 21

def k13c0 : Code := { maxStack := 2, maxLocals := 1, code := jdk_67_method_1_code, exceptionTable := #[], attributes := #[] }
def k13m0 : Method := { name := "<init>", desc := "()V", sig := { parameters := [], returnType := none }, accessFlags := 1, code := some k13c0 }
def k13c1 : Code := { maxStack := 2, maxLocals := 2, code := jdk_67_method_7_code, exceptionTable := #[], attributes := #[] }
def k13m1 : Method := { name := "append", desc := "(Ljava/lang/String;)Ljava/lang/StringBuilder;", sig := { parameters := [(.object "java/lang/String")], returnType := some (.object "java/lang/StringBuilder") }, accessFlags := 1, code := some k13c1 }
def k13c2 : Code := { maxStack := 3, maxLocals := 1, code := jdk_67_method_42_code, exceptionTable := #[], attributes := #[] }
def k13m2 : Method := { name := "toString", desc := "()Ljava/lang/String;", sig := { parameters := [], returnType := some (.object "java/lang/String") }, accessFlags := 1, code := some k13c2 }
def k13c3 : Code := { maxStack := 1, maxLocals := 1, code := jdk_67_method_93_code, exceptionTable := #[], attributes := #[] }
def k13m3 : Method := { name := "length", desc := "()I", sig := { parameters := [], returnType := some .int }, accessFlags := 4161, code := some k13c3 }
/-- java/lang/StringBuilder -/
def k13 : Class := { plain "java/lang/StringBuilder" (some 12) with
  accessFlags := 49
  interfaces := #[11, 2, 3, 4]
  cf := some (fileOf pool13 24 #[] #[{ accessFlags := 1, nameIndex := 5, descriptorIndex := 145, attributes := #[] }, { accessFlags := 1, nameIndex := 27, descriptorIndex := 28, attributes := #[] }, { accessFlags := 1, nameIndex := 399, descriptorIndex := 400, attributes := #[] }, { accessFlags := 4161, nameIndex := 345, descriptorIndex := 156, attributes := #[] }] 49 2 #[349, 351, 353, 355] #[{ accessFlags := 24, nameIndex := 357, descriptorIndex := 358, attributes := #[] }])
  fields := #[{ name := "serialVersionUID", type := .long, accessFlags := 24, slot := 0, constantValue := 0 }]
  methods := #[k13m0, k13m1, k13m2, k13m3]
  instanceTypes := #[(.array .byte), .byte, .boolean, .int]
  staticTypes := #[.long]
  resolved := Array.replicate 422 none
  statics := none }

def pool14 : Array CpInfo := pool [(2, .class_ 4), (1, u "java/lang/Object"), (0, u "<init>"), (0, u "()V"), (1, .class_ 10), (1, u "java/lang/System"), (0, u "allowSecurityManager"), (0, u "I"), (16, u "cons"), (0, u "Ljava/io/Console;"), (77, .class_ 110), (1, u "java/lang/System$CallersHolder"), (43, u "initialErrStream"), (0, u "Ljava/io/PrintStream;"), (19, u "security"), (0, u "Ljava/lang/SecurityManager;"), (31, .class_ 209), (0, u "java/lang/System$1"), (7, u "props"), (0, u "Ljava/util/Properties;"), (2, u "lineSeparator"), (0, u "Ljava/lang/String;"), (96, .class_ 321), (1, u "java/lang/System$LoggerFinder"), (5, .class_ 328), (0, u "java/lang/System$Logger"), (67, u "err"), (2, u "out"), (91, u "notSupportedJnuEncoding"), (15, u "in"), (17, u "initialIn"), (0, u "Ljava/io/InputStream;"), (35, u "bootLayer"), (0, u "Ljava/lang/ModuleLayer;"), (99, .class_ 664), (0, u "java/lang/System$2"), (9, u "NEVER"), (2, u "MAYBE"), (49, u "arraycopy"), (0, u "(Ljava/lang/Object;ILjava/lang/Object;II)V"), (72, .class_ 802), (0, u "java/lang/System$Logger$Level")] 31

def k14m0 : Method := { name := "<init>", desc := "()V", sig := { parameters := [], returnType := none }, accessFlags := 2, code := none }
def k14m1 : Method := { name := "arraycopy", desc := "(Ljava/lang/Object;ILjava/lang/Object;II)V", sig := { parameters := [(.object "java/lang/Object"), .int, (.object "java/lang/Object"), .int, .int], returnType := none }, accessFlags := 265, code := none }
/-- java/lang/System -/
def k14 : Class := { plain "java/lang/System" (some 0) with
  accessFlags := 49
  interfaces := #[]
  cf := some (fileOf pool14 8 #[.nestMembers #[319, 327, 801, 108, 663, 208]] #[{ accessFlags := 2, nameIndex := 5, descriptorIndex := 6, attributes := #[] }, { accessFlags := 265, nameIndex := 727, descriptorIndex := 728, attributes := #[] }] 49 2 #[] #[{ accessFlags := 25, nameIndex := 507, descriptorIndex := 526, attributes := #[] }, { accessFlags := 25, nameIndex := 399, descriptorIndex := 155, attributes := #[] }, { accessFlags := 25, nameIndex := 396, descriptorIndex := 155, attributes := #[] }, { accessFlags := 10, nameIndex := 525, descriptorIndex := 526, attributes := #[] }, { accessFlags := 26, nameIndex := 674, descriptorIndex := 12, attributes := #[] }, { accessFlags := 26, nameIndex := 677, descriptorIndex := 12, attributes := #[] }, { accessFlags := 10, nameIndex := 11, descriptorIndex := 12, attributes := #[] }, { accessFlags := 74, nameIndex := 175, descriptorIndex := 176, attributes := #[] }, { accessFlags := 10, nameIndex := 491, descriptorIndex := 222, attributes := #[] }, { accessFlags := 74, nameIndex := 29, descriptorIndex := 30, attributes := #[] }, { accessFlags := 74, nameIndex := 154, descriptorIndex := 155, attributes := #[] }, { accessFlags := 10, nameIndex := 217, descriptorIndex := 218, attributes := #[] }, { accessFlags := 10, nameIndex := 221, descriptorIndex := 222, attributes := #[] }, { accessFlags := 8, nameIndex := 562, descriptorIndex := 563, attributes := #[] }])
  fields := #[{ name := "in", type := (.object "java/io/InputStream"), accessFlags := 25, slot := 0, constantValue := 0 }, { name := "out", type := (.object "java/io/PrintStream"), accessFlags := 25, slot := 1, constantValue := 0 }, { name := "err", type := (.object "java/io/PrintStream"), accessFlags := 25, slot := 2, constantValue := 0 }, { name := "initialIn", type := (.object "java/io/InputStream"), accessFlags := 10, slot := 3, constantValue := 0 }, { name := "NEVER", type := .int, accessFlags := 26, slot := 4, constantValue := 0 }, { name := "MAYBE", type := .int, accessFlags := 26, slot := 5, constantValue := 0 }, { name := "allowSecurityManager", type := .int, accessFlags := 10, slot := 6, constantValue := 0 }, { name := "security", type := (.object "java/lang/SecurityManager"), accessFlags := 74, slot := 7, constantValue := 0 }, { name := "notSupportedJnuEncoding", type := (.object "java/lang/String"), accessFlags := 10, slot := 8, constantValue := 0 }, { name := "cons", type := (.object "java/io/Console"), accessFlags := 74, slot := 9, constantValue := 0 }, { name := "initialErrStream", type := (.object "java/io/PrintStream"), accessFlags := 74, slot := 10, constantValue := 0 }, { name := "props", type := (.object "java/util/Properties"), accessFlags := 10, slot := 11, constantValue := 0 }, { name := "lineSeparator", type := (.object "java/lang/String"), accessFlags := 10, slot := 12, constantValue := 0 }, { name := "bootLayer", type := (.object "java/lang/ModuleLayer"), accessFlags := 8, slot := 13, constantValue := 0 }]
  methods := #[k14m0, k14m1]
  instanceTypes := #[]
  staticTypes := #[(.object "java/io/InputStream"), (.object "java/io/PrintStream"), (.object "java/io/PrintStream"), (.object "java/io/InputStream"), .int, .int, .int, (.object "java/lang/SecurityManager"), (.object "java/lang/String"), (.object "java/io/Console"), (.object "java/io/PrintStream"), (.object "java/util/Properties"), (.object "java/lang/String"), (.object "java/lang/ModuleLayer")]
  resolved := Array.replicate 834 none
  statics := none }

def pool15 : Array CpInfo := pool [(2, .class_ 4), (1, u "java/lang/Object"), (0, u "<init>"), (0, u "()V"), (7, .class_ 16), (1, u "java/util/Arrays"), (25, u "()I"), (31, .class_ 76), (1, u "java/util/Arrays$NaturalOrder"), (36, .class_ 115), (1, u "java/util/Arrays$LegacyMergeSort"), (1, u "Z"), (21, u "copyOfRange"), (10, .methodref 151 152), (0, .class_ 153), (0, .nameAndType 154 155), (0, u "java/lang/System"), (0, u "arraycopy"), (0, u "(Ljava/lang/Object;ILjava/lang/Object;II)V"), (148, .methodref 305 306), (0, .class_ 307), (0, .nameAndType 308 309), (0, u "java/lang/Math"), (0, u "min"), (0, u "(II)I"), (29, .methodref 14 340), (0, .nameAndType 341 342), (0, u "copyOfRangeByte"), (0, u "([BII)[B"), (0, .methodref 14 344), (0, .nameAndType 345 346), (0, u "checkLength"), (0, u "(II)V"), (28, .class_ 376), (0, u "java/util/Arrays$ArrayList"), (6, .methodref 2 384), (0, .nameAndType 385 42), (0, u "hashCode"), (3, u "([Ljava/lang/Object;)I"), (55, u "$assertionsDisabled"), (269, u "MIN_ARRAY_SORT_GRAN"), (0, u "I"), (2, u "INSERTIONSORT_THRESHOLD"), (255, .class_ 976), (0, u "java/util/Arrays$ArrayItr")] 52

def k15m0 : Method := { name := "<init>", desc := "()V", sig := { parameters := [], returnType := none }, accessFlags := 2, code := none }
def k15c1 : Code := { maxStack := 4, maxLocals := 2, code := jdk_65_method_131_code, exceptionTable := #[], attributes := #[] }
def k15m1 : Method := { name := "checkLength", desc := "(II)V", sig := { parameters := [.int, .int], returnType := none }, accessFlags := 10, code := some k15c1 }
def k15c2 : Code := { maxStack := 3, maxLocals := 3, code := jdk_65_method_132_code, exceptionTable := #[], attributes := #[] }
def k15m2 : Method := { name := "copyOfRange", desc := "([BII)[B", sig := { parameters := [(.array .byte), .int, .int], returnType := some (.array .byte) }, accessFlags := 9, code := some k15c2 }
def k15c3 : Code := { maxStack := 6, maxLocals := 5, code := jdk_65_method_133_code, exceptionTable := #[], attributes := #[] }
def k15m3 : Method := { name := "copyOfRangeByte", desc := "([BII)[B", sig := { parameters := [(.array .byte), .int, .int], returnType := some (.array .byte) }, accessFlags := 10, code := some k15c3 }
def k15c4 : Code := { maxStack := 2, maxLocals := 6, code := jdk_65_method_157_code, exceptionTable := #[], attributes := #[] }
def k15m4 : Method := { name := "hashCode", desc := "([Ljava/lang/Object;)I", sig := { parameters := [(.array (.object "java/lang/Object"))], returnType := some .int }, accessFlags := 9, code := some k15c4 }
/-- java/util/Arrays -/
def k15 : Class := { plain "java/util/Arrays" (some 0) with
  accessFlags := 49
  interfaces := #[]
  cf := some (fileOf pool15 14 #[.nestMembers #[975, 375, 113, 74]] #[{ accessFlags := 2, nameIndex := 5, descriptorIndex := 6, attributes := #[] }, { accessFlags := 10, nameIndex := 345, descriptorIndex := 346, attributes := #[] }, { accessFlags := 9, nameIndex := 139, descriptorIndex := 342, attributes := #[] }, { accessFlags := 10, nameIndex := 341, descriptorIndex := 342, attributes := #[] }, { accessFlags := 9, nameIndex := 385, descriptorIndex := 389, attributes := #[] }] 49 2 #[] #[{ accessFlags := 26, nameIndex := 715, descriptorIndex := 716, attributes := #[] }, { accessFlags := 26, nameIndex := 719, descriptorIndex := 716, attributes := #[] }, { accessFlags := 4120, nameIndex := 445, descriptorIndex := 117, attributes := #[] }])
  fields := #[{ name := "MIN_ARRAY_SORT_GRAN", type := .int, accessFlags := 26, slot := 0, constantValue := 0 }, { name := "INSERTIONSORT_THRESHOLD", type := .int, accessFlags := 26, slot := 1, constantValue := 0 }, { name := "$assertionsDisabled", type := .boolean, accessFlags := 4120, slot := 2, constantValue := 0 }]
  methods := #[k15m0, k15m1, k15m2, k15m3, k15m4]
  instanceTypes := #[]
  staticTypes := #[.int, .int, .boolean]
  resolved := Array.replicate 1029 none
  statics := none }

def pool16 : Array CpInfo := pool [(1, .class_ 2), (0, u "java/lang/Math"), (1, .class_ 6), (1, u "java/lang/Object"), (0, u "<init>"), (0, u "()V"), (89, .class_ 100), (1, u "java/lang/Math$RandomNumberGeneratorHolder"), (71, u "negativeZeroFloatBits"), (0, u "J"), (2, u "negativeZeroDoubleBits"), (24, u "min"), (43, u "$assertionsDisabled"), (0, u "Z"), (88, u "(II)I"), (2, u "twoToTheDoubleScaleDown"), (0, u "D"), (4, u "twoToTheDoubleScaleUp"), (9, u "E"), (3, u "PI"), (2, u "TAU"), (2, u "DEGREES_TO_RADIANS"), (0, u "RADIANS_TO_DEGREES")] 94

def k16m0 : Method := { name := "<init>", desc := "()V", sig := { parameters := [], returnType := none }, accessFlags := 2, code := none }
def k16c1 : Code := { maxStack := 2, maxLocals := 2, code := jdk_29_method_69_code, exceptionTable := #[], attributes := #[] }
def k16m1 : Method := { name := "min", desc := "(II)I", sig := { parameters := [.int, .int], returnType := some .int }, accessFlags := 9, code := some k16c1 }
/-- java/lang/Math -/
def k16 : Class := { plain "java/lang/Math" (some 0) with
  accessFlags := 49
  interfaces := #[]
  cf := some (fileOf pool16 1 #[.nestMembers #[98]] #[{ accessFlags := 2, nameIndex := 7, descriptorIndex := 8, attributes := #[] }, { accessFlags := 9, nameIndex := 201, descriptorIndex := 335, attributes := #[] }] 49 4 #[] #[{ accessFlags := 25, nameIndex := 354, descriptorIndex := 339, attributes := #[] }, { accessFlags := 25, nameIndex := 358, descriptorIndex := 339, attributes := #[] }, { accessFlags := 25, nameIndex := 361, descriptorIndex := 339, attributes := #[] }, { accessFlags := 26, nameIndex := 364, descriptorIndex := 339, attributes := #[] }, { accessFlags := 26, nameIndex := 365, descriptorIndex := 339, attributes := #[] }, { accessFlags := 26, nameIndex := 172, descriptorIndex := 173, attributes := #[] }, { accessFlags := 26, nameIndex := 176, descriptorIndex := 173, attributes := #[] }, { accessFlags := 8, nameIndex := 344, descriptorIndex := 339, attributes := #[] }, { accessFlags := 8, nameIndex := 338, descriptorIndex := 339, attributes := #[] }, { accessFlags := 4120, nameIndex := 245, descriptorIndex := 246, attributes := #[] }])
  fields := #[{ name := "E", type := .double, accessFlags := 25, slot := 0, constantValue := 0 }, { name := "PI", type := .double, accessFlags := 25, slot := 1, constantValue := 0 }, { name := "TAU", type := .double, accessFlags := 25, slot := 2, constantValue := 0 }, { name := "DEGREES_TO_RADIANS", type := .double, accessFlags := 26, slot := 3, constantValue := 0 }, { name := "RADIANS_TO_DEGREES", type := .double, accessFlags := 26, slot := 4, constantValue := 0 }, { name := "negativeZeroFloatBits", type := .long, accessFlags := 26, slot := 5, constantValue := 0 }, { name := "negativeZeroDoubleBits", type := .long, accessFlags := 26, slot := 6, constantValue := 0 }, { name := "twoToTheDoubleScaleUp", type := .double, accessFlags := 8, slot := 7, constantValue := 0 }, { name := "twoToTheDoubleScaleDown", type := .double, accessFlags := 8, slot := 8, constantValue := 0 }, { name := "$assertionsDisabled", type := .boolean, accessFlags := 4120, slot := 9, constantValue := 0 }]
  methods := #[k16m0, k16m1]
  instanceTypes := #[]
  staticTypes := #[.double, .double, .double, .double, .double, .long, .long, .double, .double, .boolean]
  resolved := Array.replicate 460 none
  statics := none }

def pool17 : Array CpInfo := pool [(4, .class_ 6), (1, u "java/lang/Object"), (0, u "<init>"), (0, u "()V"), (5, .class_ 16), (1, u "java/lang/StringLatin1"), (28, .class_ 47), (1, u "jdk/internal/util/ArraysSupport"), (9, u "([B)I"), (26, .methodref 45 85), (0, .nameAndType 86 87), (0, u "vectorizedHashCode"), (0, u "(Ljava/lang/Object;IIII)I"), (33, u "$assertionsDisabled"), (0, u "Z"), (98, .class_ 223), (1, u "java/lang/StringLatin1$LinesSpliterator"), (57, u "equals"), (0, u "([B[B)Z"), (15, u "hashCode"), (91, .class_ 391), (0, u "java/lang/StringLatin1$CharsSpliterator")] 3

def k17m0 : Method := { name := "<init>", desc := "()V", sig := { parameters := [], returnType := none }, accessFlags := 0, code := none }
def k17c1 : Code := { maxStack := 3, maxLocals := 3, code := jdk_43_method_13_code, exceptionTable := #[], attributes := #[] }
def k17m1 : Method := { name := "equals", desc := "([B[B)Z", sig := { parameters := [(.array .byte), (.array .byte)], returnType := some .boolean }, accessFlags := 9, code := some k17c1 }
def k17c2 : Code := { maxStack := 5, maxLocals := 1, code := jdk_43_method_21_code, exceptionTable := #[], attributes := #[] }
def k17m2 : Method := { name := "hashCode", desc := "([B)I", sig := { parameters := [(.array .byte)], returnType := some .int }, accessFlags := 9, code := some k17c2 }
/-- java/lang/StringLatin1 -/
def k17 : Class := { plain "java/lang/StringLatin1" (some 0) with
  accessFlags := 48
  interfaces := #[]
  cf := some (fileOf pool17 14 #[.nestMembers #[390, 221]] #[{ accessFlags := 0, nameIndex := 7, descriptorIndex := 8, attributes := #[] }, { accessFlags := 9, nameIndex := 281, descriptorIndex := 282, attributes := #[] }, { accessFlags := 9, nameIndex := 298, descriptorIndex := 57, attributes := #[] }] 48 4 #[] #[{ accessFlags := 4120, nameIndex := 121, descriptorIndex := 122, attributes := #[] }])
  fields := #[{ name := "$assertionsDisabled", type := .boolean, accessFlags := 4120, slot := 0, constantValue := 0 }]
  methods := #[k17m0, k17m1, k17m2]
  instanceTypes := #[]
  staticTypes := #[.boolean]
  resolved := Array.replicate 395 none
  statics := none }

def pool18 : Array CpInfo := pool [(9, u "<init>"), (6, .class_ 18), (1, u "java/lang/Object"), (0, u "()V"), (1, .class_ 23), (1, u "jdk/internal/util/ArraysSupport"), (0, u "LOG2_ARRAY_LONG_INDEX_SCALE"), (0, u "I"), (2, u "U"), (0, u "Ljdk/internal/misc/Unsafe;"), (8, u "BIG_ENDIAN"), (0, u "Z"), (8, u "LOG2_BYTE_BIT_SIZE"), (4, u "LOG2_ARRAY_INT_INDEX_SCALE"), (6, .class_ 61), (0, u "[B"), (0, .methodref 21 63), (0, .nameAndType 64 65), (0, u "signedHashCode"), (0, u "(I[BII)I"), (42, u "JLA"), (0, u "Ljdk/internal/access/JavaLangAccess;"), (11, u "LOG2_ARRAY_BOOLEAN_INDEX_SCALE"), (9, u "LOG2_ARRAY_BYTE_INDEX_SCALE"), (5, u "LOG2_ARRAY_CHAR_INDEX_SCALE"), (5, u "LOG2_ARRAY_SHORT_INDEX_SCALE"), (18, u "LOG2_ARRAY_FLOAT_INDEX_SCALE"), (24, u "LOG2_ARRAY_DOUBLE_INDEX_SCALE"), (89, u "T_BOOLEAN"), (2, u "T_CHAR"), (1, u "T_FLOAT"), (1, u "T_DOUBLE"), (1, u "T_BYTE"), (1, u "T_SHORT"), (1, u "T_INT"), (1, u "T_LONG"), (1, u "SOFT_MAX_ARRAY_LENGTH"), (26, u "vectorizedHashCode"), (0, u "(Ljava/lang/Object;IIII)I")] 55

def k18m0 : Method := { name := "<init>", desc := "()V", sig := { parameters := [], returnType := none }, accessFlags := 2, code := none }
def k18c1 : Code := { maxStack := 4, maxLocals := 5, code := jdk_48_method_4_code, exceptionTable := #[], attributes := #[] }
def k18m1 : Method := { name := "vectorizedHashCode", desc := "(Ljava/lang/Object;IIII)I", sig := { parameters := [(.object "java/lang/Object"), .int, .int, .int, .int], returnType := some .int }, accessFlags := 9, code := some k18c1 }
def k18c2 : Code := { maxStack := 3, maxLocals := 6, code := jdk_48_method_5_code, exceptionTable := #[], attributes := #[] }
def k18m2 : Method := { name := "signedHashCode", desc := "(I[BII)I", sig := { parameters := [.int, (.array .byte), .int, .int], returnType := some .int }, accessFlags := 10, code := some k18c2 }
/-- jdk/internal/util/ArraysSupport -/
def k18 : Class := { plain "jdk/internal/util/ArraysSupport" (some 0) with
  accessFlags := 33
  interfaces := #[]
  cf := some (fileOf pool18 21 #[] #[{ accessFlags := 2, nameIndex := 9, descriptorIndex := 19, attributes := #[] }, { accessFlags := 9, nameIndex := 321, descriptorIndex := 322, attributes := #[] }, { accessFlags := 10, nameIndex := 64, descriptorIndex := 65, attributes := #[] }] 33 16 #[] #[{ accessFlags := 24, nameIndex := 28, descriptorIndex := 29, attributes := #[] }, { accessFlags := 26, nameIndex := 38, descriptorIndex := 39, attributes := #[] }, { accessFlags := 25, nameIndex := 121, descriptorIndex := 25, attributes := #[] }, { accessFlags := 25, nameIndex := 131, descriptorIndex := 25, attributes := #[] }, { accessFlags := 25, nameIndex := 137, descriptorIndex := 25, attributes := #[] }, { accessFlags := 25, nameIndex := 143, descriptorIndex := 25, attributes := #[] }, { accessFlags := 25, nameIndex := 53, descriptorIndex := 25, attributes := #[] }, { accessFlags := 25, nameIndex := 24, descriptorIndex := 25, attributes := #[] }, { accessFlags := 25, nameIndex := 162, descriptorIndex := 25, attributes := #[] }, { accessFlags := 25, nameIndex := 187, descriptorIndex := 25, attributes := #[] }, { accessFlags := 26, nameIndex := 48, descriptorIndex := 25, attributes := #[] }, { accessFlags := 25, nameIndex := 277, descriptorIndex := 25, attributes := #[] }, { accessFlags := 25, nameIndex := 280, descriptorIndex := 25, attributes := #[] }, { accessFlags := 25, nameIndex := 282, descriptorIndex := 25, attributes := #[] }, { accessFlags := 25, nameIndex := 284, descriptorIndex := 25, attributes := #[] }, { accessFlags := 25, nameIndex := 286, descriptorIndex := 25, attributes := #[] }, { accessFlags := 25, nameIndex := 288, descriptorIndex := 25, attributes := #[] }, { accessFlags := 25, nameIndex := 290, descriptorIndex := 25, attributes := #[] }, { accessFlags := 25, nameIndex := 292, descriptorIndex := 25, attributes := #[] }, { accessFlags := 26, nameIndex := 108, descriptorIndex := 109, attributes := #[] }, { accessFlags := 25, nameIndex := 294, descriptorIndex := 25, attributes := #[] }])
  fields := #[{ name := "U", type := (.object "jdk/internal/misc/Unsafe"), accessFlags := 24, slot := 0, constantValue := 0 }, { name := "BIG_ENDIAN", type := .boolean, accessFlags := 26, slot := 1, constantValue := 0 }, { name := "LOG2_ARRAY_BOOLEAN_INDEX_SCALE", type := .int, accessFlags := 25, slot := 2, constantValue := 0 }, { name := "LOG2_ARRAY_BYTE_INDEX_SCALE", type := .int, accessFlags := 25, slot := 3, constantValue := 0 }, { name := "LOG2_ARRAY_CHAR_INDEX_SCALE", type := .int, accessFlags := 25, slot := 4, constantValue := 0 }, { name := "LOG2_ARRAY_SHORT_INDEX_SCALE", type := .int, accessFlags := 25, slot := 5, constantValue := 0 }, { name := "LOG2_ARRAY_INT_INDEX_SCALE", type := .int, accessFlags := 25, slot := 6, constantValue := 0 }, { name := "LOG2_ARRAY_LONG_INDEX_SCALE", type := .int, accessFlags := 25, slot := 7, constantValue := 0 }, { name := "LOG2_ARRAY_FLOAT_INDEX_SCALE", type := .int, accessFlags := 25, slot := 8, constantValue := 0 }, { name := "LOG2_ARRAY_DOUBLE_INDEX_SCALE", type := .int, accessFlags := 25, slot := 9, constantValue := 0 }, { name := "LOG2_BYTE_BIT_SIZE", type := .int, accessFlags := 26, slot := 10, constantValue := 0 }, { name := "T_BOOLEAN", type := .int, accessFlags := 25, slot := 11, constantValue := 0 }, { name := "T_CHAR", type := .int, accessFlags := 25, slot := 12, constantValue := 0 }, { name := "T_FLOAT", type := .int, accessFlags := 25, slot := 13, constantValue := 0 }, { name := "T_DOUBLE", type := .int, accessFlags := 25, slot := 14, constantValue := 0 }, { name := "T_BYTE", type := .int, accessFlags := 25, slot := 15, constantValue := 0 }, { name := "T_SHORT", type := .int, accessFlags := 25, slot := 16, constantValue := 0 }, { name := "T_INT", type := .int, accessFlags := 25, slot := 17, constantValue := 0 }, { name := "T_LONG", type := .int, accessFlags := 25, slot := 18, constantValue := 0 }, { name := "JLA", type := (.object "jdk/internal/access/JavaLangAccess"), accessFlags := 26, slot := 19, constantValue := 0 }, { name := "SOFT_MAX_ARRAY_LENGTH", type := .int, accessFlags := 25, slot := 20, constantValue := 0 }]
  methods := #[k18m0, k18m1, k18m2]
  instanceTypes := #[]
  staticTypes := #[(.object "jdk/internal/misc/Unsafe"), .boolean, .int, .int, .int, .int, .int, .int, .int, .int, .int, .int, .int, .int, .int, .int, .int, .int, .int, (.object "jdk/internal/access/JavaLangAccess"), .int]
  resolved := Array.replicate 378 none
  statics := none }

def pool19 : Array CpInfo := pool [(2, .class_ 4), (1, u "java/lang/Object"), (0, u "<init>"), (0, u "()V"), (17, .class_ 26), (1, u "jdk/internal/util/Preconditions"), (28, .class_ 56), (0, u "jdk/internal/util/Preconditions$4"), (57, .class_ 115), (0, u "jdk/internal/util/Preconditions$1"), (7, u "SIOOBE_FORMATTER"), (0, u "Ljava/util/function/BiFunction;"), (0, .class_ 126), (0, u "jdk/internal/util/Preconditions$2"), (3, u "AIOOBE_FORMATTER"), (0, .class_ 132), (0, u "jdk/internal/util/Preconditions$3"), (3, u "IOOBE_FORMATTER")] 57

def k19m0 : Method := { name := "<init>", desc := "()V", sig := { parameters := [], returnType := none }, accessFlags := 1, code := none }
/-- jdk/internal/util/Preconditions -/
def k19 : Class := { plain "jdk/internal/util/Preconditions" (some 0) with
  accessFlags := 33
  interfaces := #[]
  cf := some (fileOf pool19 24 #[.nestMembers #[55, 131, 125, 114]] #[{ accessFlags := 1, nameIndex := 5, descriptorIndex := 6, attributes := #[] }] 33 2 #[] #[{ accessFlags := 25, nameIndex := 123, descriptorIndex := 124, attributes := #[] }, { accessFlags := 25, nameIndex := 130, descriptorIndex := 124, attributes := #[] }, { accessFlags := 25, nameIndex := 136, descriptorIndex := 124, attributes := #[] }])
  fields := #[{ name := "SIOOBE_FORMATTER", type := (.object "java/util/function/BiFunction"), accessFlags := 25, slot := 0, constantValue := 0 }, { name := "AIOOBE_FORMATTER", type := (.object "java/util/function/BiFunction"), accessFlags := 25, slot := 1, constantValue := 0 }, { name := "IOOBE_FORMATTER", type := (.object "java/util/function/BiFunction"), accessFlags := 25, slot := 2, constantValue := 0 }]
  methods := #[k19m0]
  instanceTypes := #[]
  staticTypes := #[(.object "java/util/function/BiFunction"), (.object "java/util/function/BiFunction"), (.object "java/util/function/BiFunction")]
  resolved := Array.replicate 194 none
  statics := some 1 }

def pool20 : Array CpInfo := pool [(1, u "java/lang/Cloneable"), (0, .class_ 1), (0, u "java/lang/Object"), (0, .class_ 3)] 3

/-- java/lang/Cloneable -/
def k20 : Class := { plain "java/lang/Cloneable" (some 0) with
  accessFlags := 1537
  interfaces := #[]
  cf := some (fileOf pool20 2 #[] #[] 1537 4 #[] #[])
  fields := #[]
  methods := #[]
  instanceTypes := #[]
  staticTypes := #[]
  resolved := Array.replicate 8 none
  statics := none }

/-- the primitive byte -/
def k21 : Class := { plain "byte" none with kind := .primitive 'B', accessFlags := 0x411 }
/-- [B -/
def k22 : Class := { plain "[B" (some 0) with kind := .array 21 .byte, interfaces := #[20, 2], accessFlags := 1041 }

/-- the primitive char -/
def k23 : Class := { plain "char" none with kind := .primitive 'C', accessFlags := 0x411 }
/-- [C -/
def k24 : Class := { plain "[C" (some 0) with kind := .array 23 .char, interfaces := #[20, 2], accessFlags := 1041 }

/-- the primitive int -/
def k25 : Class := { plain "int" none with kind := .primitive 'I', accessFlags := 0x411 }
/-- [I -/
def k26 : Class := { plain "[I" (some 0) with kind := .array 25 .int, interfaces := #[20, 2], accessFlags := 1041 }

/-- [Ljava/lang/Object; -/
def k27 : Class := { plain "[Ljava/lang/Object;" (some 0) with kind := .array 0 (.object "java/lang/Object"), interfaces := #[20, 2], accessFlags := 1041 }

def heap : Heap := #[{ cls := 7, slots := #[.long 0, .int 1, .null, .int 0, .null, .int 0, .int 0], vm := .statics 7 },
  { cls := 19, slots := #[.null, .null, .null], vm := .statics 19 }]
def classes : Array Class := #[k0, k1, k2, k3, k4, k5, k6, k7, k8, k9, k10, k11, k12, k13, k14, k15, k16, k17, k18, k19, k20, k21, k22, k23, k24, k25, k26, k27]
def interned : List (Array UInt16 × Addr) := []
def slotsUsed : Nat := 10
def theMethod : MethodId := ⟨1, 2⟩
def args0 : Array Value := #[.int 5, .int 6, .int 7, .int 8, .int 9]
def aboutOver (below : List Frame) : State where
  vm := { classes := classes, interned := interned.toArray }
  heap := heap
  slotsUsed := slotsUsed
  threads := #[{ frames := .invoking theMethod args0 :: below }]
def below0 : List Frame := [.native { method := ⟨0, 0⟩, args := #[] }]
def about1 : State := aboutOver below0
def p0 : Program := .bare "" "" ""
def e0 : Env := launch0.env 0 0 0
theorem w_frames : about1.frames = Frame.invoking theMethod args0 :: below0 := rfl
set_option maxRecDepth 65536 in
theorem w_args : argsFit about1.vm theMethod args0 = true := by decide +kernel
set_option maxRecDepth 65536 in
theorem w_heap : heapFits about1 = true := by decide +kernel
set_option maxRecDepth 65536 in
theorem w_runnable : about1.curStatus? = some .runnable := by decide +kernel
set_option maxRecDepth 65536 in
theorem w_alone : about1.alone = true := by decide +kernel
set_option maxRecDepth 65536 in
theorem w_named : about1.methodNamed? x = some theMethod := by decide +kernel
set_option maxRecDepth 65536 in
theorem w_hears : about1.hears theMethod below0 = true := by decide +kernel
set_option maxRecDepth 65536 in
theorem w_ripe : about1.ripe theMethod args0 below0 = true := by decide +kernel
theorem w_running : about1.status = .running := rfl
set_option maxRecDepth 65536 in
theorem w_room : about1.hasRoom e0.platform room_1 = true :=
  launch0.hasRoom_least _ room_1 (by decide +kernel) (by decide +kernel) (by decide +kernel) (by decide +kernel) (by decide +kernel) (by decide +kernel)
theorem allAtoms_all (ts : List Jvm.Cond) (a : Array Jvm.Value) (st : Jvm.State) : (allAtoms ts).before a st = ts.all (fun c => c.before a st) := by
  induction ts with
  | nil => rfl
  | cons c t ih =>
    show (Jvm.Cond.and c (allAtoms t)).before a st = _
    rw [Jvm.Cond.before_and, ih, List.all_cons]
def words1 : List Jvm.Cond := Jvm.Cond.code x code maxLocals ret :: tables_1
/-- a 'code' word, met by the world's own term for the bytes: nothing is compared byte by byte -/
theorem code_word {y : MethodName} {bytes : ByteArray} {mx : Nat} {rt : Option FieldType} {a : Array Value} {s : State} {m : MethodId} {meth : Method} {c : Code} (h1 : s.methodNamed? y = some m) (h2 : s.vm.method? m = some meth) (h3 : meth.code = some c) (h4 : c.code = bytes)
    (h5 : (c.maxLocals == mx && c.exceptionTable.isEmpty && decide (c.maxStack ≤ mostOperands) && decide (meth.sig.returnType = rt) && !meth.locks && decide (parseMethodDescriptor y.desc = some meth.sig)) = true) : (Jvm.Cond.code y bytes mx rt).before a s = true := by
  simp only [Bool.and_eq_true, beq_iff_eq, Bool.not_eq_true', decide_eq_true_eq] at h5
  obtain ⟨⟨⟨⟨⟨g1, g2⟩, g3⟩, g4⟩, g5⟩, g6⟩ := h5
  simp [Cond.before, Cond.holds, Cond.value, h1, h2, h3, h4, g1, g2, g3, g4, g5, g6]
def isCode : Jvm.Cond → Bool
  | .code _ _ _ _ => true
  | _ => false
theorem all_split {L : List Jvm.Cond} {P : Jvm.Cond → Bool} (h1 : L.all (fun c => isCode c || P c) = true) (h2 : ∀ c ∈ L.filter isCode, P c = true) : L.all P = true := by
  refine List.all_eq_true.mpr fun c hc => ?_
  have h := List.all_eq_true.mp h1 c hc
  rcases Bool.eq_false_or_eq_true (isCode c) with hi | hi
  · exact h2 c (List.mem_filter.mpr ⟨hc, hi⟩)
  · simpa [hi] using h
set_option maxRecDepth 65536 in
theorem w_c0 : (Jvm.Cond.code x code maxLocals ret).before args0 about1 = true := code_word (m := ⟨1, 2⟩) (meth := k1m2) (c := k1c2) (by decide +kernel) rfl rfl rfl (by decide +kernel)
set_option maxRecDepth 65536 in
theorem w_c1 : (Jvm.Cond.code ({ cls := "com/example/changeline/changeline/change/TableNameEqualsPinLaw", name := "mk", desc := "(III)Ljava/lang/String;" } : Jvm.MethodName) method_2_code (3 : Nat) (Option.some (Jvm.ClassFile.FieldType.object "java/lang/String"))).before args0 about1 = true := code_word (m := ⟨1, 1⟩) (meth := k1m1) (c := k1c1) (by decide +kernel) rfl rfl rfl (by decide +kernel)
set_option maxRecDepth 65536 in
theorem w_c2 : (Jvm.Cond.code ({ cls := "java/lang/String", name := "<init>", desc := "([C)V" } : Jvm.MethodName) jdk_42_method_3_code (2 : Nat) (Option.none : Option Jvm.ClassFile.FieldType)).before args0 about1 = true := code_word (m := ⟨7, 1⟩) (meth := k7m1) (c := k7c1) (by decide +kernel) rfl rfl rfl (by decide +kernel)
set_option maxRecDepth 65536 in
theorem w_c3 : (Jvm.Cond.code ({ cls := "java/lang/String", name := "<init>", desc := "([CIILjava/lang/Void;)V" } : Jvm.MethodName) jdk_42_method_149_code (6 : Nat) (Option.none : Option Jvm.ClassFile.FieldType)).before args0 about1 = true := code_word (m := ⟨7, 8⟩) (meth := k7m8) (c := k7c8) (by decide +kernel) rfl rfl rfl (by decide +kernel)
set_option maxRecDepth 65536 in
theorem w_c4 : (Jvm.Cond.code ({ cls := "java/lang/Object", name := "<init>", desc := "()V" } : Jvm.MethodName) object_method_1_code (1 : Nat) (Option.none : Option Jvm.ClassFile.FieldType)).before args0 about1 = true := code_word (m := ⟨0, 0⟩) (meth := k0m0) (c := k0c0) (by decide +kernel) rfl rfl rfl (by decide +kernel)
set_option maxRecDepth 65536 in
theorem w_c5 : (Jvm.Cond.code ({ cls := "java/lang/StringUTF16", name := "compress", desc := "([CII)[B" } : Jvm.MethodName) jdk_52_method_16_code (6 : Nat) (Option.some (Jvm.ClassFile.FieldType.array Jvm.ClassFile.FieldType.byte))).before args0 about1 = true := code_word (m := ⟨8, 2⟩) (meth := k8m2) (c := k8c2) (by decide +kernel) rfl rfl rfl (by decide +kernel)
set_option maxRecDepth 65536 in
theorem w_c6 : (Jvm.Cond.code ({ cls := "java/lang/StringUTF16", name := "compress", desc := "([CI[BII)I" } : Jvm.MethodName) jdk_52_method_21_code (7 : Nat) (Option.some Jvm.ClassFile.FieldType.int)).before args0 about1 = true := code_word (m := ⟨8, 3⟩) (meth := k8m3) (c := k8c3) (by decide +kernel) rfl rfl rfl (by decide +kernel)
set_option maxRecDepth 65536 in
theorem w_c7 : (Jvm.Cond.code ({ cls := "java/lang/StringUTF16", name := "coderFromArrayLen", desc := "([BI)B" } : Jvm.MethodName) jdk_52_method_15_code (2 : Nat) (Option.some Jvm.ClassFile.FieldType.byte)).before args0 about1 = true := code_word (m := ⟨8, 1⟩) (meth := k8m1) (c := k8c1) (by decide +kernel) rfl rfl rfl (by decide +kernel)
set_option maxRecDepth 65536 in
theorem w_c8 : (Jvm.Cond.code ({ cls := "com/example/changeline/changeline/change/TableName", name := "<init>", desc := "(Ljava/lang/String;Ljava/lang/String;)V" } : Jvm.MethodName) prog_13_method_1_code (3 : Nat) (Option.none : Option Jvm.ClassFile.FieldType)).before args0 about1 = true := code_word (m := ⟨9, 0⟩) (meth := k9m0) (c := k9c0) (by decide +kernel) rfl rfl rfl (by decide +kernel)
set_option maxRecDepth 65536 in
theorem w_c9 : (Jvm.Cond.code ({ cls := "java/util/Objects", name := "requireNonNull", desc := "(Ljava/lang/Object;Ljava/lang/String;)Ljava/lang/Object;" } : Jvm.MethodName) jdk_31_method_11_code (2 : Nat) (Option.some (Jvm.ClassFile.FieldType.object "java/lang/Object"))).before args0 about1 = true := code_word (m := ⟨10, 2⟩) (meth := k10m2) (c := k10c2) (by decide +kernel) rfl rfl rfl (by decide +kernel)
set_option maxRecDepth 65536 in
theorem w_c10 : (Jvm.Cond.code ({ cls := "java/lang/String", name := "isEmpty", desc := "()Z" } : Jvm.MethodName) jdk_42_method_55_code (1 : Nat) (Option.some Jvm.ClassFile.FieldType.boolean)).before args0 about1 = true := code_word (m := ⟨7, 4⟩) (meth := k7m4) (c := k7c4) (by decide +kernel) rfl rfl rfl (by decide +kernel)
set_option maxRecDepth 65536 in
theorem w_c11 : (Jvm.Cond.code ({ cls := "java/lang/StringBuilder", name := "<init>", desc := "()V" } : Jvm.MethodName) jdk_67_method_1_code (1 : Nat) (Option.none : Option Jvm.ClassFile.FieldType)).before args0 about1 = true := code_word (m := ⟨13, 0⟩) (meth := k13m0) (c := k13c0) (by decide +kernel) rfl rfl rfl (by decide +kernel)
set_option maxRecDepth 65536 in
theorem w_c12 : (Jvm.Cond.code ({ cls := "java/lang/AbstractStringBuilder", name := "<init>", desc := "(I)V" } : Jvm.MethodName) jdk_68_method_2_code (2 : Nat) (Option.none : Option Jvm.ClassFile.FieldType)).before args0 about1 = true := code_word (m := ⟨12, 1⟩) (meth := k12m1) (c := k12c1) (by decide +kernel) rfl rfl rfl (by decide +kernel)
set_option maxRecDepth 65536 in
theorem w_c13 : (Jvm.Cond.code ({ cls := "java/lang/StringBuilder", name := "append", desc := "(Ljava/lang/String;)Ljava/lang/StringBuilder;" } : Jvm.MethodName) jdk_67_method_7_code (2 : Nat) (Option.some (Jvm.ClassFile.FieldType.object "java/lang/StringBuilder"))).before args0 about1 = true := code_word (m := ⟨13, 1⟩) (meth := k13m1) (c := k13c1) (by decide +kernel) rfl rfl rfl (by decide +kernel)
set_option maxRecDepth 65536 in
theorem w_c14 : (Jvm.Cond.code ({ cls := "java/lang/AbstractStringBuilder", name := "append", desc := "(Ljava/lang/String;)Ljava/lang/AbstractStringBuilder;" } : Jvm.MethodName) jdk_68_method_22_code (3 : Nat) (Option.some (Jvm.ClassFile.FieldType.object "java/lang/AbstractStringBuilder"))).before args0 about1 = true := code_word (m := ⟨12, 4⟩) (meth := k12m4) (c := k12c4) (by decide +kernel) rfl rfl rfl (by decide +kernel)
set_option maxRecDepth 65536 in
theorem w_c15 : (Jvm.Cond.code ({ cls := "java/lang/String", name := "length", desc := "()I" } : Jvm.MethodName) jdk_42_method_54_code (1 : Nat) (Option.some Jvm.ClassFile.FieldType.int)).before args0 about1 = true := code_word (m := ⟨7, 3⟩) (meth := k7m3) (c := k7c3) (by decide +kernel) rfl rfl rfl (by decide +kernel)
set_option maxRecDepth 65536 in
theorem w_c16 : (Jvm.Cond.code ({ cls := "java/lang/String", name := "coder", desc := "()B" } : Jvm.MethodName) jdk_42_method_152_code (1 : Nat) (Option.some Jvm.ClassFile.FieldType.byte)).before args0 about1 = true := code_word (m := ⟨7, 10⟩) (meth := k7m10) (c := k7c10) (by decide +kernel) rfl rfl rfl (by decide +kernel)
set_option maxRecDepth 65536 in
theorem w_c17 : (Jvm.Cond.code ({ cls := "java/lang/AbstractStringBuilder", name := "ensureCapacityInternal", desc := "(I)V" } : Jvm.MethodName) jdk_68_method_9_code (3 : Nat) (Option.none : Option Jvm.ClassFile.FieldType)).before args0 about1 = true := code_word (m := ⟨12, 3⟩) (meth := k12m3) (c := k12c3) (by decide +kernel) rfl rfl rfl (by decide +kernel)
set_option maxRecDepth 65536 in
theorem w_c18 : (Jvm.Cond.code ({ cls := "java/lang/AbstractStringBuilder", name := "putStringAt", desc := "(ILjava/lang/String;)V" } : Jvm.MethodName) jdk_68_method_73_code (3 : Nat) (Option.none : Option Jvm.ClassFile.FieldType)).before args0 about1 = true := code_word (m := ⟨12, 8⟩) (meth := k12m8) (c := k12c8) (by decide +kernel) rfl rfl rfl (by decide +kernel)
set_option maxRecDepth 65536 in
theorem w_c19 : (Jvm.Cond.code ({ cls := "java/lang/AbstractStringBuilder", name := "inflateIfNeededFor", desc := "(Ljava/lang/String;)V" } : Jvm.MethodName) jdk_68_method_71_code (2 : Nat) (Option.none : Option Jvm.ClassFile.FieldType)).before args0 about1 = true := code_word (m := ⟨12, 7⟩) (meth := k12m7) (c := k12c7) (by decide +kernel) rfl rfl rfl (by decide +kernel)
set_option maxRecDepth 65536 in
theorem w_c20 : (Jvm.Cond.code ({ cls := "java/lang/String", name := "getBytes", desc := "([BIB)V" } : Jvm.MethodName) jdk_42_method_147_code (4 : Nat) (Option.none : Option Jvm.ClassFile.FieldType)).before args0 about1 = true := code_word (m := ⟨7, 7⟩) (meth := k7m7) (c := k7c7) (by decide +kernel) rfl rfl rfl (by decide +kernel)
set_option maxRecDepth 65536 in
theorem w_c21 : (Jvm.Cond.code ({ cls := "java/lang/StringBuilder", name := "toString", desc := "()Ljava/lang/String;" } : Jvm.MethodName) jdk_67_method_42_code (1 : Nat) (Option.some (Jvm.ClassFile.FieldType.object "java/lang/String"))).before args0 about1 = true := code_word (m := ⟨13, 2⟩) (meth := k13m2) (c := k13c2) (by decide +kernel) rfl rfl rfl (by decide +kernel)
set_option maxRecDepth 65536 in
theorem w_c22 : (Jvm.Cond.code ({ cls := "java/lang/String", name := "<init>", desc := "(Ljava/lang/StringBuilder;)V" } : Jvm.MethodName) jdk_42_method_53_code (2 : Nat) (Option.none : Option Jvm.ClassFile.FieldType)).before args0 about1 = true := code_word (m := ⟨7, 2⟩) (meth := k7m2) (c := k7c2) (by decide +kernel) rfl rfl rfl (by decide +kernel)
set_option maxRecDepth 65536 in
theorem w_c23 : (Jvm.Cond.code ({ cls := "java/lang/String", name := "<init>", desc := "(Ljava/lang/AbstractStringBuilder;Ljava/lang/Void;)V" } : Jvm.MethodName) jdk_42_method_150_code (5 : Nat) (Option.none : Option Jvm.ClassFile.FieldType)).before args0 about1 = true := code_word (m := ⟨7, 9⟩) (meth := k7m9) (c := k7c9) (by decide +kernel) rfl rfl rfl (by decide +kernel)
set_option maxRecDepth 65536 in
theorem w_c24 : (Jvm.Cond.code ({ cls := "java/lang/AbstractStringBuilder", name := "getValue", desc := "()[B" } : Jvm.MethodName) jdk_68_method_64_code (1 : Nat) (Option.some (Jvm.ClassFile.FieldType.array Jvm.ClassFile.FieldType.byte))).before args0 about1 = true := code_word (m := ⟨12, 5⟩) (meth := k12m5) (c := k12c5) (by decide +kernel) rfl rfl rfl (by decide +kernel)
set_option maxRecDepth 65536 in
theorem w_c25 : (Jvm.Cond.code ({ cls := "java/lang/StringBuilder", name := "length", desc := "()I" } : Jvm.MethodName) jdk_67_method_93_code (1 : Nat) (Option.some Jvm.ClassFile.FieldType.int)).before args0 about1 = true := code_word (m := ⟨13, 3⟩) (meth := k13m3) (c := k13c3) (by decide +kernel) rfl rfl rfl (by decide +kernel)
set_option maxRecDepth 65536 in
theorem w_c26 : (Jvm.Cond.code ({ cls := "java/lang/AbstractStringBuilder", name := "length", desc := "()I" } : Jvm.MethodName) jdk_68_method_6_code (1 : Nat) (Option.some Jvm.ClassFile.FieldType.int)).before args0 about1 = true := code_word (m := ⟨12, 2⟩) (meth := k12m2) (c := k12c2) (by decide +kernel) rfl rfl rfl (by decide +kernel)
set_option maxRecDepth 65536 in
theorem w_c27 : (Jvm.Cond.code ({ cls := "java/lang/AbstractStringBuilder", name := "isLatin1", desc := "()Z" } : Jvm.MethodName) jdk_68_method_68_code (1 : Nat) (Option.some Jvm.ClassFile.FieldType.boolean)).before args0 about1 = true := code_word (m := ⟨12, 6⟩) (meth := k12m6) (c := k12c6) (by decide +kernel) rfl rfl rfl (by decide +kernel)
set_option maxRecDepth 65536 in
theorem w_c28 : (Jvm.Cond.code ({ cls := "java/util/Arrays", name := "copyOfRange", desc := "([BII)[B" } : Jvm.MethodName) jdk_65_method_132_code (3 : Nat) (Option.some (Jvm.ClassFile.FieldType.array Jvm.ClassFile.FieldType.byte))).before args0 about1 = true := code_word (m := ⟨15, 2⟩) (meth := k15m2) (c := k15c2) (by decide +kernel) rfl rfl rfl (by decide +kernel)
set_option maxRecDepth 65536 in
theorem w_c29 : (Jvm.Cond.code ({ cls := "java/util/Arrays", name := "copyOfRangeByte", desc := "([BII)[B" } : Jvm.MethodName) jdk_65_method_133_code (5 : Nat) (Option.some (Jvm.ClassFile.FieldType.array Jvm.ClassFile.FieldType.byte))).before args0 about1 = true := code_word (m := ⟨15, 3⟩) (meth := k15m3) (c := k15c3) (by decide +kernel) rfl rfl rfl (by decide +kernel)
set_option maxRecDepth 65536 in
theorem w_c30 : (Jvm.Cond.code ({ cls := "java/util/Arrays", name := "checkLength", desc := "(II)V" } : Jvm.MethodName) jdk_65_method_131_code (2 : Nat) (Option.none : Option Jvm.ClassFile.FieldType)).before args0 about1 = true := code_word (m := ⟨15, 1⟩) (meth := k15m1) (c := k15c1) (by decide +kernel) rfl rfl rfl (by decide +kernel)
set_option maxRecDepth 65536 in
theorem w_c31 : (Jvm.Cond.code ({ cls := "java/lang/Math", name := "min", desc := "(II)I" } : Jvm.MethodName) jdk_29_method_69_code (2 : Nat) (Option.some Jvm.ClassFile.FieldType.int)).before args0 about1 = true := code_word (m := ⟨16, 1⟩) (meth := k16m1) (c := k16c1) (by decide +kernel) rfl rfl rfl (by decide +kernel)
set_option maxRecDepth 65536 in
theorem w_c32 : (Jvm.Cond.code ({ cls := "java/util/Objects", name := "hash", desc := "([Ljava/lang/Object;)I" } : Jvm.MethodName) jdk_31_method_5_code (1 : Nat) (Option.some Jvm.ClassFile.FieldType.int)).before args0 about1 = true := code_word (m := ⟨10, 1⟩) (meth := k10m1) (c := k10c1) (by decide +kernel) rfl rfl rfl (by decide +kernel)
set_option maxRecDepth 65536 in
theorem w_c33 : (Jvm.Cond.code ({ cls := "java/util/Arrays", name := "hashCode", desc := "([Ljava/lang/Object;)I" } : Jvm.MethodName) jdk_65_method_157_code (6 : Nat) (Option.some Jvm.ClassFile.FieldType.int)).before args0 about1 = true := code_word (m := ⟨15, 4⟩) (meth := k15m4) (c := k15c4) (by decide +kernel) rfl rfl rfl (by decide +kernel)
set_option maxRecDepth 65536 in
theorem w_c34 : (Jvm.Cond.code ({ cls := "java/lang/String", name := "hashCode", desc := "()I" } : Jvm.MethodName) jdk_42_method_78_code (2 : Nat) (Option.some Jvm.ClassFile.FieldType.int)).before args0 about1 = true := code_word (m := ⟨7, 6⟩) (meth := k7m6) (c := k7c6) (by decide +kernel) rfl rfl rfl (by decide +kernel)
set_option maxRecDepth 65536 in
theorem w_c35 : (Jvm.Cond.code ({ cls := "java/lang/String", name := "isLatin1", desc := "()Z" } : Jvm.MethodName) jdk_42_method_154_code (1 : Nat) (Option.some Jvm.ClassFile.FieldType.boolean)).before args0 about1 = true := code_word (m := ⟨7, 11⟩) (meth := k7m11) (c := k7c11) (by decide +kernel) rfl rfl rfl (by decide +kernel)
set_option maxRecDepth 65536 in
theorem w_c36 : (Jvm.Cond.code ({ cls := "java/lang/StringLatin1", name := "hashCode", desc := "([B)I" } : Jvm.MethodName) jdk_43_method_21_code (1 : Nat) (Option.some Jvm.ClassFile.FieldType.int)).before args0 about1 = true := code_word (m := ⟨17, 2⟩) (meth := k17m2) (c := k17c2) (by decide +kernel) rfl rfl rfl (by decide +kernel)
set_option maxRecDepth 65536 in
theorem w_c37 : (Jvm.Cond.code ({ cls := "com/example/changeline/changeline/change/TableName", name := "equals", desc := "(Ljava/lang/Object;)Z" } : Jvm.MethodName) prog_13_method_5_code (3 : Nat) (Option.some Jvm.ClassFile.FieldType.boolean)).before args0 about1 = true := code_word (m := ⟨9, 1⟩) (meth := k9m1) (c := k9c1) (by decide +kernel) rfl rfl rfl (by decide +kernel)
set_option maxRecDepth 65536 in
theorem w_c38 : (Jvm.Cond.code ({ cls := "java/lang/String", name := "equals", desc := "(Ljava/lang/Object;)Z" } : Jvm.MethodName) jdk_42_method_66_code (3 : Nat) (Option.some Jvm.ClassFile.FieldType.boolean)).before args0 about1 = true := code_word (m := ⟨7, 5⟩) (meth := k7m5) (c := k7c5) (by decide +kernel) rfl rfl rfl (by decide +kernel)
set_option maxRecDepth 65536 in
theorem w_c39 : (Jvm.Cond.code ({ cls := "java/lang/StringLatin1", name := "equals", desc := "([B[B)Z" } : Jvm.MethodName) jdk_43_method_13_code (3 : Nat) (Option.some Jvm.ClassFile.FieldType.boolean)).before args0 about1 = true := code_word (m := ⟨17, 1⟩) (meth := k17m1) (c := k17c1) (by decide +kernel) rfl rfl rfl (by decide +kernel)
set_option maxRecDepth 65536 in
theorem w_c40 : (Jvm.Cond.code ({ cls := "jdk/internal/util/ArraysSupport", name := "vectorizedHashCode", desc := "(Ljava/lang/Object;IIII)I" } : Jvm.MethodName) jdk_48_method_4_code (5 : Nat) (Option.some Jvm.ClassFile.FieldType.int)).before args0 about1 = true := code_word (m := ⟨18, 1⟩) (meth := k18m1) (c := k18c1) (by decide +kernel) rfl rfl rfl (by decide +kernel)
set_option maxRecDepth 65536 in
theorem w_c41 : (Jvm.Cond.code ({ cls := "jdk/internal/util/ArraysSupport", name := "signedHashCode", desc := "(I[BII)I" } : Jvm.MethodName) jdk_48_method_5_code (6 : Nat) (Option.some Jvm.ClassFile.FieldType.int)).before args0 about1 = true := code_word (m := ⟨18, 2⟩) (meth := k18m2) (c := k18c2) (by decide +kernel) rfl rfl rfl (by decide +kernel)
def codes1 : List Jvm.Cond := [Jvm.Cond.code x code maxLocals ret, Jvm.Cond.code ({ cls := "com/example/changeline/changeline/change/TableNameEqualsPinLaw", name := "mk", desc := "(III)Ljava/lang/String;" } : Jvm.MethodName) method_2_code (3 : Nat) (Option.some (Jvm.ClassFile.FieldType.object "java/lang/String")), Jvm.Cond.code ({ cls := "java/lang/String", name := "<init>", desc := "([C)V" } : Jvm.MethodName) jdk_42_method_3_code (2 : Nat) (Option.none : Option Jvm.ClassFile.FieldType), Jvm.Cond.code ({ cls := "java/lang/String", name := "<init>", desc := "([CIILjava/lang/Void;)V" } : Jvm.MethodName) jdk_42_method_149_code (6 : Nat) (Option.none : Option Jvm.ClassFile.FieldType), Jvm.Cond.code ({ cls := "java/lang/Object", name := "<init>", desc := "()V" } : Jvm.MethodName) object_method_1_code (1 : Nat) (Option.none : Option Jvm.ClassFile.FieldType), Jvm.Cond.code ({ cls := "java/lang/StringUTF16", name := "compress", desc := "([CII)[B" } : Jvm.MethodName) jdk_52_method_16_code (6 : Nat) (Option.some (Jvm.ClassFile.FieldType.array Jvm.ClassFile.FieldType.byte)), Jvm.Cond.code ({ cls := "java/lang/StringUTF16", name := "compress", desc := "([CI[BII)I" } : Jvm.MethodName) jdk_52_method_21_code (7 : Nat) (Option.some Jvm.ClassFile.FieldType.int), Jvm.Cond.code ({ cls := "java/lang/StringUTF16", name := "coderFromArrayLen", desc := "([BI)B" } : Jvm.MethodName) jdk_52_method_15_code (2 : Nat) (Option.some Jvm.ClassFile.FieldType.byte), Jvm.Cond.code ({ cls := "com/example/changeline/changeline/change/TableName", name := "<init>", desc := "(Ljava/lang/String;Ljava/lang/String;)V" } : Jvm.MethodName) prog_13_method_1_code (3 : Nat) (Option.none : Option Jvm.ClassFile.FieldType), Jvm.Cond.code ({ cls := "java/util/Objects", name := "requireNonNull", desc := "(Ljava/lang/Object;Ljava/lang/String;)Ljava/lang/Object;" } : Jvm.MethodName) jdk_31_method_11_code (2 : Nat) (Option.some (Jvm.ClassFile.FieldType.object "java/lang/Object")), Jvm.Cond.code ({ cls := "java/lang/String", name := "isEmpty", desc := "()Z" } : Jvm.MethodName) jdk_42_method_55_code (1 : Nat) (Option.some Jvm.ClassFile.FieldType.boolean), Jvm.Cond.code ({ cls := "java/lang/StringBuilder", name := "<init>", desc := "()V" } : Jvm.MethodName) jdk_67_method_1_code (1 : Nat) (Option.none : Option Jvm.ClassFile.FieldType), Jvm.Cond.code ({ cls := "java/lang/AbstractStringBuilder", name := "<init>", desc := "(I)V" } : Jvm.MethodName) jdk_68_method_2_code (2 : Nat) (Option.none : Option Jvm.ClassFile.FieldType), Jvm.Cond.code ({ cls := "java/lang/StringBuilder", name := "append", desc := "(Ljava/lang/String;)Ljava/lang/StringBuilder;" } : Jvm.MethodName) jdk_67_method_7_code (2 : Nat) (Option.some (Jvm.ClassFile.FieldType.object "java/lang/StringBuilder")), Jvm.Cond.code ({ cls := "java/lang/AbstractStringBuilder", name := "append", desc := "(Ljava/lang/String;)Ljava/lang/AbstractStringBuilder;" } : Jvm.MethodName) jdk_68_method_22_code (3 : Nat) (Option.some (Jvm.ClassFile.FieldType.object "java/lang/AbstractStringBuilder")), Jvm.Cond.code ({ cls := "java/lang/String", name := "length", desc := "()I" } : Jvm.MethodName) jdk_42_method_54_code (1 : Nat) (Option.some Jvm.ClassFile.FieldType.int), Jvm.Cond.code ({ cls := "java/lang/String", name := "coder", desc := "()B" } : Jvm.MethodName) jdk_42_method_152_code (1 : Nat) (Option.some Jvm.ClassFile.FieldType.byte), Jvm.Cond.code ({ cls := "java/lang/AbstractStringBuilder", name := "ensureCapacityInternal", desc := "(I)V" } : Jvm.MethodName) jdk_68_method_9_code (3 : Nat) (Option.none : Option Jvm.ClassFile.FieldType), Jvm.Cond.code ({ cls := "java/lang/AbstractStringBuilder", name := "putStringAt", desc := "(ILjava/lang/String;)V" } : Jvm.MethodName) jdk_68_method_73_code (3 : Nat) (Option.none : Option Jvm.ClassFile.FieldType), Jvm.Cond.code ({ cls := "java/lang/AbstractStringBuilder", name := "inflateIfNeededFor", desc := "(Ljava/lang/String;)V" } : Jvm.MethodName) jdk_68_method_71_code (2 : Nat) (Option.none : Option Jvm.ClassFile.FieldType), Jvm.Cond.code ({ cls := "java/lang/String", name := "getBytes", desc := "([BIB)V" } : Jvm.MethodName) jdk_42_method_147_code (4 : Nat) (Option.none : Option Jvm.ClassFile.FieldType), Jvm.Cond.code ({ cls := "java/lang/StringBuilder", name := "toString", desc := "()Ljava/lang/String;" } : Jvm.MethodName) jdk_67_method_42_code (1 : Nat) (Option.some (Jvm.ClassFile.FieldType.object "java/lang/String")), Jvm.Cond.code ({ cls := "java/lang/String", name := "<init>", desc := "(Ljava/lang/StringBuilder;)V" } : Jvm.MethodName) jdk_42_method_53_code (2 : Nat) (Option.none : Option Jvm.ClassFile.FieldType), Jvm.Cond.code ({ cls := "java/lang/String", name := "<init>", desc := "(Ljava/lang/AbstractStringBuilder;Ljava/lang/Void;)V" } : Jvm.MethodName) jdk_42_method_150_code (5 : Nat) (Option.none : Option Jvm.ClassFile.FieldType), Jvm.Cond.code ({ cls := "java/lang/AbstractStringBuilder", name := "getValue", desc := "()[B" } : Jvm.MethodName) jdk_68_method_64_code (1 : Nat) (Option.some (Jvm.ClassFile.FieldType.array Jvm.ClassFile.FieldType.byte)), Jvm.Cond.code ({ cls := "java/lang/StringBuilder", name := "length", desc := "()I" } : Jvm.MethodName) jdk_67_method_93_code (1 : Nat) (Option.some Jvm.ClassFile.FieldType.int), Jvm.Cond.code ({ cls := "java/lang/AbstractStringBuilder", name := "length", desc := "()I" } : Jvm.MethodName) jdk_68_method_6_code (1 : Nat) (Option.some Jvm.ClassFile.FieldType.int), Jvm.Cond.code ({ cls := "java/lang/AbstractStringBuilder", name := "isLatin1", desc := "()Z" } : Jvm.MethodName) jdk_68_method_68_code (1 : Nat) (Option.some Jvm.ClassFile.FieldType.boolean), Jvm.Cond.code ({ cls := "java/util/Arrays", name := "copyOfRange", desc := "([BII)[B" } : Jvm.MethodName) jdk_65_method_132_code (3 : Nat) (Option.some (Jvm.ClassFile.FieldType.array Jvm.ClassFile.FieldType.byte)), Jvm.Cond.code ({ cls := "java/util/Arrays", name := "copyOfRangeByte", desc := "([BII)[B" } : Jvm.MethodName) jdk_65_method_133_code (5 : Nat) (Option.some (Jvm.ClassFile.FieldType.array Jvm.ClassFile.FieldType.byte)), Jvm.Cond.code ({ cls := "java/util/Arrays", name := "checkLength", desc := "(II)V" } : Jvm.MethodName) jdk_65_method_131_code (2 : Nat) (Option.none : Option Jvm.ClassFile.FieldType), Jvm.Cond.code ({ cls := "java/lang/Math", name := "min", desc := "(II)I" } : Jvm.MethodName) jdk_29_method_69_code (2 : Nat) (Option.some Jvm.ClassFile.FieldType.int), Jvm.Cond.code ({ cls := "java/util/Objects", name := "hash", desc := "([Ljava/lang/Object;)I" } : Jvm.MethodName) jdk_31_method_5_code (1 : Nat) (Option.some Jvm.ClassFile.FieldType.int), Jvm.Cond.code ({ cls := "java/util/Arrays", name := "hashCode", desc := "([Ljava/lang/Object;)I" } : Jvm.MethodName) jdk_65_method_157_code (6 : Nat) (Option.some Jvm.ClassFile.FieldType.int), Jvm.Cond.code ({ cls := "java/lang/String", name := "hashCode", desc := "()I" } : Jvm.MethodName) jdk_42_method_78_code (2 : Nat) (Option.some Jvm.ClassFile.FieldType.int), Jvm.Cond.code ({ cls := "java/lang/String", name := "isLatin1", desc := "()Z" } : Jvm.MethodName) jdk_42_method_154_code (1 : Nat) (Option.some Jvm.ClassFile.FieldType.boolean), Jvm.Cond.code ({ cls := "java/lang/StringLatin1", name := "hashCode", desc := "([B)I" } : Jvm.MethodName) jdk_43_method_21_code (1 : Nat) (Option.some Jvm.ClassFile.FieldType.int), Jvm.Cond.code ({ cls := "com/example/changeline/changeline/change/TableName", name := "equals", desc := "(Ljava/lang/Object;)Z" } : Jvm.MethodName) prog_13_method_5_code (3 : Nat) (Option.some Jvm.ClassFile.FieldType.boolean), Jvm.Cond.code ({ cls := "java/lang/String", name := "equals", desc := "(Ljava/lang/Object;)Z" } : Jvm.MethodName) jdk_42_method_66_code (3 : Nat) (Option.some Jvm.ClassFile.FieldType.boolean), Jvm.Cond.code ({ cls := "java/lang/StringLatin1", name := "equals", desc := "([B[B)Z" } : Jvm.MethodName) jdk_43_method_13_code (3 : Nat) (Option.some Jvm.ClassFile.FieldType.boolean), Jvm.Cond.code ({ cls := "jdk/internal/util/ArraysSupport", name := "vectorizedHashCode", desc := "(Ljava/lang/Object;IIII)I" } : Jvm.MethodName) jdk_48_method_4_code (5 : Nat) (Option.some Jvm.ClassFile.FieldType.int), Jvm.Cond.code ({ cls := "jdk/internal/util/ArraysSupport", name := "signedHashCode", desc := "(I[BII)I" } : Jvm.MethodName) jdk_48_method_5_code (6 : Nat) (Option.some Jvm.ClassFile.FieldType.int)]
set_option maxRecDepth 65536 in
theorem codes_eq : words1.filter isCode = codes1 := rfl
theorem w_codes : ∀ c ∈ words1.filter isCode, c.before args0 about1 = true := by
  rw [codes_eq]
  intro c hc
  simp only [codes1, List.mem_cons, List.not_mem_nil, or_false] at hc
  rcases hc with rfl | rfl | rfl | rfl | rfl | rfl | rfl | rfl | rfl | rfl | rfl | rfl | rfl | rfl | rfl | rfl | rfl | rfl | rfl | rfl | rfl | rfl | rfl | rfl | rfl | rfl | rfl | rfl | rfl | rfl | rfl | rfl | rfl | rfl | rfl | rfl | rfl | rfl | rfl | rfl | rfl | rfl
  · exact w_c0
  · exact w_c1
  · exact w_c2
  · exact w_c3
  · exact w_c4
  · exact w_c5
  · exact w_c6
  · exact w_c7
  · exact w_c8
  · exact w_c9
  · exact w_c10
  · exact w_c11
  · exact w_c12
  · exact w_c13
  · exact w_c14
  · exact w_c15
  · exact w_c16
  · exact w_c17
  · exact w_c18
  · exact w_c19
  · exact w_c20
  · exact w_c21
  · exact w_c22
  · exact w_c23
  · exact w_c24
  · exact w_c25
  · exact w_c26
  · exact w_c27
  · exact w_c28
  · exact w_c29
  · exact w_c30
  · exact w_c31
  · exact w_c32
  · exact w_c33
  · exact w_c34
  · exact w_c35
  · exact w_c36
  · exact w_c37
  · exact w_c38
  · exact w_c39
  · exact w_c40
  · exact w_c41
set_option maxRecDepth 65536 in
theorem w_t1 : (words1.take 24).all (fun c => isCode c || c.before args0 about1) = true := by decide +kernel
set_option maxRecDepth 65536 in
theorem w_t2 : ((words1.drop 24).take 24).all (fun c => isCode c || c.before args0 about1) = true := by decide +kernel
set_option maxRecDepth 65536 in
theorem w_t3 : (((words1.drop 24).drop 24).take 24).all (fun c => isCode c || c.before args0 about1) = true := by decide +kernel
set_option maxRecDepth 65536 in
theorem w_t4 : ((((words1.drop 24).drop 24).drop 24).take 24).all (fun c => isCode c || c.before args0 about1) = true := by decide +kernel
set_option maxRecDepth 65536 in
theorem w_t5 : (((((words1.drop 24).drop 24).drop 24).drop 24).take 24).all (fun c => isCode c || c.before args0 about1) = true := by decide +kernel
set_option maxRecDepth 65536 in
theorem w_t6 : ((((((words1.drop 24).drop 24).drop 24).drop 24).drop 24).take 24).all (fun c => isCode c || c.before args0 about1) = true := by decide +kernel
set_option maxRecDepth 65536 in
theorem w_t7 : (((((((words1.drop 24).drop 24).drop 24).drop 24).drop 24).drop 24).take 24).all (fun c => isCode c || c.before args0 about1) = true := by decide +kernel
set_option maxRecDepth 65536 in
theorem w_t8 : ((((((((words1.drop 24).drop 24).drop 24).drop 24).drop 24).drop 24).drop 24).take 24).all (fun c => isCode c || c.before args0 about1) = true := by decide +kernel
set_option maxRecDepth 65536 in
theorem w_t9 : (((((((((words1.drop 24).drop 24).drop 24).drop 24).drop 24).drop 24).drop 24).drop 24).take 24).all (fun c => isCode c || c.before args0 about1) = true := by decide +kernel
set_option maxRecDepth 65536 in
theorem w_t10 : (((((((((words1.drop 24).drop 24).drop 24).drop 24).drop 24).drop 24).drop 24).drop 24).drop 24).all (fun c => isCode c || c.before args0 about1) = true := by decide +kernel
theorem w_tables : (allAtoms (Jvm.Cond.code x code maxLocals ret :: tables_1)).before args0 about1 = true := by
  rw [allAtoms_all]
  show words1.all (fun c => c.before args0 about1) = true
  refine all_split ?_ w_codes
  rw [← List.take_append_drop 24 words1, List.all_append, w_t1, ← List.take_append_drop 24 (words1.drop 24), List.all_append, w_t2, ← List.take_append_drop 24 ((words1.drop 24).drop 24), List.all_append, w_t3, ← List.take_append_drop 24 (((words1.drop 24).drop 24).drop 24), List.all_append, w_t4, ← List.take_append_drop 24 ((((words1.drop 24).drop 24).drop 24).drop 24), List.all_append, w_t5, ← List.take_append_drop 24 (((((words1.drop 24).drop 24).drop 24).drop 24).drop 24), List.all_append, w_t6, ← List.take_append_drop 24 ((((((words1.drop 24).drop 24).drop 24).drop 24).drop 24).drop 24), List.all_append, w_t7, ← List.take_append_drop 24 (((((((words1.drop 24).drop 24).drop 24).drop 24).drop 24).drop 24).drop 24), List.all_append, w_t8, ← List.take_append_drop 24 ((((((((words1.drop 24).drop 24).drop 24).drop 24).drop 24).drop 24).drop 24).drop 24), List.all_append, w_t9, w_t10]
  rfl
set_option maxRecDepth 65536 in
theorem w_rest : rest_1_c.before args0 about1 = true := by decide +kernel
set_option maxRecDepth 65536 in
theorem w_case : (Jvm.Cond.and given_1 narrow_1).before args0 about1 = true := by decide +kernel
set_option maxRecDepth 65536 in
theorem w_consts : constsHeld consts_1 about1 := Jvm.Lit.constsHeldB_iff.mp (by decide +kernel)
theorem w_applies : (headSpec (Jvm.Cond.code x code maxLocals ret :: tables_1) room_1).applies x e0.platform about1 = true :=
  (Spec.applies_iff w_frames).mpr ⟨w_running, w_runnable, w_alone, w_named, w_hears, w_ripe, w_room, w_tables⟩
theorem atStart : AtStart classFile x code maxLocals ret World_1 tables_1 room_1 Calls_1 rest_1 Pre_1 launch0 p0 e0 about1 theMethod args0 below0 :=
  ⟨lists_1, trivial, launch0.admits_env _ _ _, launch0.least_env, fairChoices_fair.cas, fairChoices_fair.clock, w_frames, w_args, w_heap, w_applies, ⟨w_consts, trivial⟩, w_rest, w_case⟩
end start1
theorem witness_1 : WitnessClaimed_1 := ⟨start1.p0, start1.e0, start1.about1, start1.theMethod, start1.args0, start1.below0, start1.atStart⟩
end Jvm.Pilot.@@N@@
