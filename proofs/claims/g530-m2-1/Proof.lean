import JvmDerived
import JvmDerived.Pilot.@@N@@Statement
import JvmDerived.Pilot.@@N@@Code
set_option linter.unusedVariables false
set_option linter.unusedSimpArgs false
namespace Jvm.OwnK
open Sem ClassFile Op Lib Jvm.Stand Jvm.Free Jvm.LawKit Jvm.RoadKit
/-! a walk's surroundings: program, launch, environment, room, state at the call, method, arguments, frames below, the method's record and code -/
abbrev Cx : Type := Program × Launch × Env × Room × State × MethodId × Array Value × List Frame × Method × Code × State × List (String × Nat)
abbrev Cx.p (Γ : Cx) : Program := Γ.1
abbrev Cx.l (Γ : Cx) : Launch := Γ.2.1
abbrev Cx.e (Γ : Cx) : Env := Γ.2.2.1
abbrev Cx.R (Γ : Cx) : Room := Γ.2.2.2.1
abbrev Cx.s (Γ : Cx) : State := Γ.2.2.2.2.1
abbrev Cx.m (Γ : Cx) : MethodId := Γ.2.2.2.2.2.1
abbrev Cx.args (Γ : Cx) : Array Value := Γ.2.2.2.2.2.2.1
abbrev Cx.below (Γ : Cx) : List Frame := Γ.2.2.2.2.2.2.2.1
abbrev Cx.meth (Γ : Cx) : Method := Γ.2.2.2.2.2.2.2.2.1
abbrev Cx.c (Γ : Cx) : Code := Γ.2.2.2.2.2.2.2.2.2.1
abbrev Cx.Z (Γ : Cx) : State := Γ.2.2.2.2.2.2.2.2.2.2.1
abbrev Cx.EL (Γ : Cx) : List (String × Nat) := Γ.2.2.2.2.2.2.2.2.2.2.2
/-- the booked constants stand since the start, and the addresses of sf are none of theirs -/
def Hd (Γ : Cx) (vm : Vm) (h : Heap) (sf : List Addr) : Prop := CHr Γ.Z Γ.EL Γ.s.vm Γ.s.heap vm h ∧ ∀ x ∈ sf, x < h.size ∧ Safe Γ.Z Γ.EL vm h x
section HdS
variable {Γ : Cx} {vm : Vm} {h h' : Heap} {sf : List Addr}
theorem Hd.more (H : Hd Γ vm h sf) (E : Ext h h') : Hd Γ vm h' sf := ⟨H.1.trans (CHr.ext E H.1.1), fun x hx => ⟨Nat.lt_of_lt_of_le (H.2 x hx).1 E.1, (H.2 x hx).2.ext E H.1.1⟩⟩
theorem Hd.new (H : Hd Γ vm h sf) (E : Ext h h') (lt : h.size < h'.size) : Hd Γ vm h' (h.size :: sf) := ⟨(H.more E).1, fun x hx => by
  rcases List.mem_cons.mp hx with rfl | hx
  · exact ⟨lt, (Safe.new (Nat.le_refl _)).ext E H.1.1⟩
  · exact (H.more E).2 x hx⟩
theorem Hd.wr {a : Addr} {sl : Nat} {v : Value} (H : Hd Γ vm h sf) (W : Wr h h' a sl v) (ms : a ∈ sf) : Hd Γ vm h' sf := ⟨H.1.trans (CHr.wr W (H.2 a ms).2 H.1.1), fun x hx => ⟨by rw [W.size]; exact (H.2 x hx).1, Safe.wr W (H.2 a ms).2 H.1.1 (H.2 x hx).2⟩⟩
theorem Hd.keep {a : Addr} (H : Hd Γ vm h sf) (K : Keep h h' [a]) (ms : a ∈ sf) : Hd Γ vm h' sf := ⟨H.1.trans (CHr.keep K (fun x hx => by rw [List.mem_singleton.mp hx]; exact (H.2 a ms).2) H.1.1), fun x hx => ⟨Nat.lt_of_lt_of_le (H.2 x hx).1 K.1, (H.2 x hx).2.keep K (fun x hx => by rw [List.mem_singleton.mp hx]; exact (H.2 a ms).2) H.1.1⟩⟩
end HdS
/-- what stays the same all along a walk -/
def Ctx (Γ : Cx) (Z : State) (EL : List (String × Nat)) (own : String) (bytes : ByteArray) (maxl : Nat) (ret : Option FieldType) (nm : String) (rm : Room) (hs : Heap) : Prop :=
  Γ.p.tables.exec = Jvm.exec ∧ Z.Warmed39 Γ.s.vm ∧ Γ.s.vm.findClass own = some Γ.m.cls ∧ Γ.c.code = bytes ∧ Γ.c.maxLocals = maxl ∧ Γ.meth.sig.returnType = ret ∧ Γ.meth.name = nm ∧ Γ.meth.locks = false ∧ Γ.R = rm ∧ Γ.s.heap = hs ∧ Γ.Z = Z ∧ Γ.EL = EL ∧ ∃ a0, EW Z a0 EL
/-- where the walk stands: the state T with the heap h; at most C cells and S slots made; what was written lies in cells made since the law began -/
def W (Γ : Cx) (n0 : Nat) (T : State) (h : Heap) (C S : Nat) (sf : List Addr) : Prop := ∃ locs vm0 k0, Stand Γ.p Γ.l Γ.e Γ.R (Γ.s.setVm vm0) Γ.m Γ.args Γ.below Γ.meth Γ.c T locs C S ∧ T.heap = h ∧ Fr n0 locs ∧ Γ.s.Since vm0 k0 ∧ k0 ≤ h.size ∧ Hd Γ vm0 h sf
/-- from here the run comes to the method's end with what Q says -/
def Go (Γ : Cx) (n0 : Nat) (Q : Option Value → Heap → List Addr → Prop) (T : State) (f : JFrame) : Prop :=
  ∃ s₂ o, Steps Γ.p.tables Γ.e Γ.below (T.setTop f) s₂ ∧ s₂.status = .running ∧ Ended s₂ Γ.below o ∧ ∃ v L, o = .returned v ∧ ((∃ sf', Q v s₂.heap sf' ∧ ∀ x ∈ sf', x < s₂.heap.size ∧ Safe Γ.Z Γ.EL s₂.vm s₂.heap x) ∧ Fr n0 L) ∧ CHr Γ.Z Γ.EL Γ.s.vm Γ.s.heap s₂.vm s₂.heap ∧ ReturnedEndW Γ.s o s₂ L Γ.R.cells Γ.R.slots
/-- a body's contract: called with these arguments at this heap it returns with what Q says -/
def MetW (Z : State) (EL : List (String × Nat)) (sf : List Addr) (y : MethodName) (bytes : ByteArray) (maxl : Nat) (ret : Option FieldType) (ws : List Cond) (rm : Room) (as' : Array Value) (h0 : Heap) (n0 : Nat) (Q : Option Value → Heap → List Addr → Prop) : Prop :=
  ∀ l : Launch, MetFree l y (head1 (Cond.code y bytes maxl ret :: ws) rm) (fun a U => a = as' ∧ Z.Warmed39 U.vm ∧ U.heap = h0 ∧ CHv Z EL U.vm h0 ∧ ∀ x ∈ sf, x < h0.size ∧ Safe Z EL U.vm h0 x) (fun _ _ _ _ _ => True) (fun _ U o U' => ∃ v L, o = .returned v ∧ ((∃ sf', Q v U'.heap sf' ∧ ∀ x ∈ sf', x < U'.heap.size ∧ Safe Z EL U'.vm U'.heap x) ∧ Fr n0 L) ∧ CHr Z EL U.vm U.heap U'.vm U'.heap ∧ ReturnedEndW U o U' L rm.cells rm.slots)
abbrev Met (Z : State) (EL : List (String × Nat)) (sf : List Addr) (y : MethodName) (bytes : ByteArray) (maxl : Nat) (ret : Option FieldType) (rm : Room) (as' : Array Value) (h0 : Heap) (n0 : Nat) (Q : Option Value → Heap → List Addr → Prop) : Prop := MetW Z EL sf y bytes maxl ret [] rm as' h0 n0 Q
section K
variable {Γ : Cx} {Z : State} {EL : List (String × Nat)} {sf : List Addr} {own nm : String} {bytes : ByteArray} {maxl : Nat} {ret : Option FieldType} {rm : Room} {n0 : Nat} {T : State} {h hs0 : Heap} {C S : Nat} {Q : Option Value → Heap → List Addr → Prop} {Ls : Array Slot} {st : List Value} {pc pc' : Nat}
theorem k_body {y : MethodName} {ws : List Cond} {as' : Array Value} {f : MethodId → JFrame} (hew : ∃ a0, EW Z a0 EL) (hx : plainFor y = true) (hf : ∀ m, entryFrame m as' maxl = f m)
    (body : ∀ (Γ : Cx) (T : State), Ctx Γ Z EL y.cls bytes maxl ret y.name rm h → W Γ n0 T h 0 0 sf → Go Γ n0 Q T (f Γ.m)) : MetW Z EL sf y bytes maxl ret ws rm as' h n0 Q := by
  intro l
  refine MetFree.of_bodySF (ret := ret) hx hisR ?_
  intro p e s m args below meth c s₁ Bd hml0 hP hK
  obtain ⟨rfl, hZ, hh, hC, hsf⟩ := hP
  subst hh
  have X0 : Stand p l e rm s m args below meth c s₁ [] 0 0 := Stand.of_body Bd
  have e0 : s₁.heap = s.heap := by rw [Bd.state]; rfl
  have g := body (p, l, e, rm, s, m, args, below, meth, c, Z, EL) s₁ ⟨Bd.exec, hZ, findClass_of_methodNamed Bd.named, Bd.bytes, hml0, Bd.returns, (name_of_methodNamed Bd.named Bd.method).1, Bd.notSynchronized, rfl, rfl, rfl, rfl, hew⟩ ⟨[], s.vm, 0, X0, e0, Fr.nil n0, (State.WarmedH.refl s).since 0, Nat.zero_le _, CHr.refl hC, hsf⟩
  rw [← hf] at g
  exact g
theorem Go.of {T' : State} {f f' : JFrame} (k : ∀ target, Steps Γ.p.tables Γ.e Γ.below (T'.setTop f') target → Steps Γ.p.tables Γ.e Γ.below (T.setTop f) target) (K : Go Γ n0 Q T' f') : Go Γ n0 Q T f := by
  obtain ⟨s₂, o, h1, r⟩ := K
  exact ⟨s₂, o, k _ h1, r⟩
theorem Go.mono {Q' : Option Value → Heap → List Addr → Prop} {f : JFrame} (K : Go Γ n0 Q T f) (q : ∀ v h sf, Q v h sf → Q' v h sf) : Go Γ n0 Q' T f := by
  obtain ⟨s₂, o, h1, h2, h3, v, L, h4, ⟨⟨sf', h5, h5'⟩, h6⟩, h7⟩ := K
  exact ⟨s₂, o, h1, h2, h3, v, L, h4, ⟨⟨sf', q _ _ _ h5, h5'⟩, h6⟩, h7⟩
theorem W.more {C' S' : Nat} (X : W Γ n0 T h C S sf) (hc : C ≤ C') (hs : S ≤ S') : W Γ n0 T h C' S' sf := by
  obtain ⟨L, v, k, X, r⟩ := X; exact ⟨L, v, k, X.more hc hs, r⟩
theorem MetW.mono {y : MethodName} {ws : List Cond} {as' : Array Value} {Q' : Option Value → Heap → List Addr → Prop} (M : MetW Z EL sf y bytes maxl ret ws rm as' h n0 Q) (q : ∀ v h sf, Q v h sf → Q' v h sf) : MetW Z EL sf y bytes maxl ret ws rm as' h n0 Q' := by
  intro l p e h1 h2 h3 s m args below hf happ hP hK
  obtain ⟨n, o, a1, a2, a3, v, L, b1, ⟨⟨sf', b2, b2'⟩, b3⟩, b4⟩ := M l p e h1 h2 h3 s m args below hf happ hP hK
  exact ⟨n, o, a1, a2, a3, v, L, b1, ⟨⟨sf', q _ _ _ b2, b2'⟩, b3⟩, b4⟩
/-! ### returns -/
theorem k_retv (G : Ctx Γ Z EL own bytes maxl ret nm rm hs0) (X : W Γ n0 T h C S sf) (hd : decode bytes pc = .ok (.return_, 1)) (hr : ret = none) (q : Q none h sf) (hC : C ≤ rm.cells) (hS : S ≤ rm.slots) : Go Γ n0 Q T (mkF Γ.m pc Ls []) := by
  obtain ⟨hx, hZ, hown, hby, hml, hret, hnm, hlk, hR, hsH, hzz, hel, hew⟩ := G
  subst hzz hel
  obtain ⟨aw, hew⟩ := hew
  obtain ⟨L, vm0, k0, X, e, N, hSi, hk, HD⟩ := X
  subst e
  have e : T.heap = T.heap := rfl
  have AT := CHv.at X (State.Warmed39.trans hZ hSi.1) hew HD.1.1
  obtain ⟨fs, hr', hrun, hended, hE⟩ := X.leaveW hSi (by rw [e]; exact hk) (v := none) (fun _ => rfl) hlk
  subst hr
  refine ⟨_, _, ?_, hrun, hended, none, L, rfl, ⟨⟨sf, ?_, fun x hx' => ⟨(HD.2 x hx').1, AT.safe (HD.2 x hx').1 (HD.2 x hx').2⟩⟩, N⟩, HD.1.trans AT, hE.1, hE.2.1, hE.2.2.1, hE.2.2.2.mono (hR ▸ hC) (hR ▸ hS)⟩
  · exact X.returnOut hx hret (hb hby hd) hr'
  · exact q
theorem k_ret {w : Value} {t : FieldType} {i : Instr} {rest : List Value} (G : Ctx Γ Z EL own bytes maxl ret nm rm hs0) (X : W Γ n0 T h C S sf) (hd : decode bytes pc = .ok (i, 1)) (hr : ret = some t) (hn : narrow t w = w)
    (hi : (i = .ireturn ∧ (t = .int ∨ t = .boolean ∨ t = .byte ∨ t = .char ∨ t = .short) ∧ ∃ z, w = .int z) ∨ (i = .lreturn ∧ t = .long ∧ ∃ z, w = .long z) ∨ (i = .dreturn ∧ t = .double ∧ ∃ z, w = .double z) ∨ (i = .freturn ∧ t = .float ∧ ∃ z, w = .float z) ∨ (i = .areturn ∧ t.isReference = true ∧ w.isRef = true))
    (q : Q (some w) h sf) (hC : C ≤ rm.cells) (hS : S ≤ rm.slots) : Go Γ n0 Q T (mkF Γ.m pc Ls (w :: rest)) := by
  obtain ⟨hx, hZ, hown, hby, hml, hret, hnm, hlk, hR, hsH, hzz, hel, hew⟩ := G
  subst hzz hel
  obtain ⟨aw, hew⟩ := hew
  obtain ⟨L, vm0, k0, X, e, N, hSi, hk, HD⟩ := X
  subst e
  have e : T.heap = T.heap := rfl
  have AT := CHv.at X (State.Warmed39.trans hZ hSi.1) hew HD.1.1
  subst hr
  obtain ⟨fs, hr', hrun, hended, hE⟩ := X.leaveW hSi (by rw [e]; exact hk) (v := some w) (fun h => by rw [hret] at h; cases h) hlk
  refine ⟨_, _, ?_, hrun, hended, some w, L, rfl, ⟨⟨sf, ?_, fun x hx' => ⟨(HD.2 x hx').1, AT.safe (HD.2 x hx').1 (HD.2 x hx').2⟩⟩, N⟩, HD.1.trans AT, hE.1, hE.2.1, hE.2.2.1, hE.2.2.2.mono (hR ▸ hC) (hR ▸ hS)⟩
  · exact retOut X hx hret hn hi (hb hby hd) hr'
  · exact q
theorem k_reti {z : Int32} {rest : List Value} (G : Ctx Γ Z EL own bytes maxl ret nm rm hs0) (X : W Γ n0 T h C S sf) (hd : decode bytes pc = .ok (.ireturn, 1)) (hr : ret = some .int) (q : Q (some (.int z)) h sf) (hC : C ≤ rm.cells) (hS : S ≤ rm.slots) : Go Γ n0 Q T (mkF Γ.m pc Ls (.int z :: rest)) :=
  k_ret G X hd hr rfl (Or.inl ⟨rfl, Or.inl rfl, _, rfl⟩) q hC hS
theorem k_retb {z : Int32} {rest : List Value} {t : FieldType} (G : Ctx Γ Z EL own bytes maxl ret nm rm hs0) (X : W Γ n0 T h C S sf) (hd : decode bytes pc = .ok (.ireturn, 1)) (hr : ret = some t) (ht : t = .int ∨ t = .boolean ∨ t = .byte ∨ t = .char ∨ t = .short) (hn : narrow t (.int z) = .int z) (q : Q (some (.int z)) h sf) (hC : C ≤ rm.cells) (hS : S ≤ rm.slots) : Go Γ n0 Q T (mkF Γ.m pc Ls (.int z :: rest)) :=
  k_ret G X hd hr hn (Or.inl ⟨rfl, ht, _, rfl⟩) q hC hS
theorem k_retl {z : Int64} {rest : List Value} (G : Ctx Γ Z EL own bytes maxl ret nm rm hs0) (X : W Γ n0 T h C S sf) (hd : decode bytes pc = .ok (.lreturn, 1)) (hr : ret = some .long) (q : Q (some (.long z)) h sf) (hC : C ≤ rm.cells) (hS : S ≤ rm.slots) : Go Γ n0 Q T (mkF Γ.m pc Ls (.long z :: rest)) :=
  k_ret G X hd hr rfl (Or.inr (Or.inl ⟨rfl, rfl, _, rfl⟩)) q hC hS
theorem narrow_ref {t : FieldType} {w : Value} (ht : t.isReference = true) : narrow t w = w := by cases t <;> first | (cases ht; done) | (cases w <;> rfl)
theorem k_reta {w : Value} {rest : List Value} {t : FieldType} (G : Ctx Γ Z EL own bytes maxl ret nm rm hs0) (X : W Γ n0 T h C S sf) (hd : decode bytes pc = .ok (.areturn, 1)) (hr : ret = some t) (ht : t.isReference = true) (hv : w.isRef = true) (q : Q (some w) h sf) (hC : C ≤ rm.cells) (hS : S ≤ rm.slots) : Go Γ n0 Q T (mkF Γ.m pc Ls (w :: rest)) :=
  k_ret G X hd hr (narrow_ref ht) (Or.inr (Or.inr (Or.inr (Or.inr ⟨rfl, ht, hv⟩)))) q hC hS
theorem k_iloadN {k : Fin 4} {v : Int32} (G : Ctx Γ Z EL own bytes maxl ret nm rm hs0) (X : W Γ n0 T h C S sf) (hd : decode bytes pc = .ok (.iload_n k, 1)) (hp : pc + 1 = pc') (hl : Ls[k.val]? = some (.val (.int v))) (K : Go Γ n0 Q T (mkF Γ.m pc' Ls (.int v :: st))) : Go Γ n0 Q T (mkF Γ.m pc Ls (st)) := by
  subst hp
  obtain ⟨hx, hZ0, hown0, hby, hml, hret, hnm, hlk, hR, hsH, hzz, hel, hew⟩ := G
  subst hzz hel
  obtain ⟨aw, hew⟩ := hew
  obtain ⟨L, vm0, k0, X, e, N, hS, hk, HD⟩ := X
  have hZ : Γ.Z.Warmed39 (Γ.s.setVm vm0).vm := State.Warmed39.trans hZ0 hS.1
  have hown : (Γ.s.setVm vm0).vm.findClass own = some Γ.m.cls := by rw [show (Γ.s.setVm vm0).vm = vm0 from rfl, hS.1.alike.findClass]; exact hown0
  exact Go.of (fun t k => XS.iloadN X.here hx rfl (hb hby hd) hl k) K
theorem k_iload {k : Nat} {v : Int32} (G : Ctx Γ Z EL own bytes maxl ret nm rm hs0) (X : W Γ n0 T h C S sf) (hd : decode bytes pc = .ok (.iload k, 2)) (hp : pc + 2 = pc') (hl : Ls[k]? = some (.val (.int v))) (K : Go Γ n0 Q T (mkF Γ.m pc' Ls (.int v :: st))) : Go Γ n0 Q T (mkF Γ.m pc Ls (st)) := by
  subst hp
  obtain ⟨hx, hZ0, hown0, hby, hml, hret, hnm, hlk, hR, hsH, hzz, hel, hew⟩ := G
  subst hzz hel
  obtain ⟨aw, hew⟩ := hew
  obtain ⟨L, vm0, k0, X, e, N, hS, hk, HD⟩ := X
  have hZ : Γ.Z.Warmed39 (Γ.s.setVm vm0).vm := State.Warmed39.trans hZ0 hS.1
  have hown : (Γ.s.setVm vm0).vm.findClass own = some Γ.m.cls := by rw [show (Γ.s.setVm vm0).vm = vm0 from rfl, hS.1.alike.findClass]; exact hown0
  exact Go.of (fun t k => XS.iload X.here hx rfl (hb hby hd) hl k) K
theorem k_lloadN {k : Fin 4} {v : Int64} (G : Ctx Γ Z EL own bytes maxl ret nm rm hs0) (X : W Γ n0 T h C S sf) (hd : decode bytes pc = .ok (.lload_n k, 1)) (hp : pc + 1 = pc') (hl : Ls[k.val]? = some (.val (.long v))) (K : Go Γ n0 Q T (mkF Γ.m pc' Ls (.long v :: st))) : Go Γ n0 Q T (mkF Γ.m pc Ls (st)) := by
  subst hp
  obtain ⟨hx, hZ0, hown0, hby, hml, hret, hnm, hlk, hR, hsH, hzz, hel, hew⟩ := G
  subst hzz hel
  obtain ⟨aw, hew⟩ := hew
  obtain ⟨L, vm0, k0, X, e, N, hS, hk, HD⟩ := X
  have hZ : Γ.Z.Warmed39 (Γ.s.setVm vm0).vm := State.Warmed39.trans hZ0 hS.1
  have hown : (Γ.s.setVm vm0).vm.findClass own = some Γ.m.cls := by rw [show (Γ.s.setVm vm0).vm = vm0 from rfl, hS.1.alike.findClass]; exact hown0
  exact Go.of (fun t k => XS.lloadN X.here hx rfl (hb hby hd) hl k) K
theorem k_lload {k : Nat} {v : Int64} (G : Ctx Γ Z EL own bytes maxl ret nm rm hs0) (X : W Γ n0 T h C S sf) (hd : decode bytes pc = .ok (.lload k, 2)) (hp : pc + 2 = pc') (hl : Ls[k]? = some (.val (.long v))) (K : Go Γ n0 Q T (mkF Γ.m pc' Ls (.long v :: st))) : Go Γ n0 Q T (mkF Γ.m pc Ls (st)) := by
  subst hp
  obtain ⟨hx, hZ0, hown0, hby, hml, hret, hnm, hlk, hR, hsH, hzz, hel, hew⟩ := G
  subst hzz hel
  obtain ⟨aw, hew⟩ := hew
  obtain ⟨L, vm0, k0, X, e, N, hS, hk, HD⟩ := X
  have hZ : Γ.Z.Warmed39 (Γ.s.setVm vm0).vm := State.Warmed39.trans hZ0 hS.1
  have hown : (Γ.s.setVm vm0).vm.findClass own = some Γ.m.cls := by rw [show (Γ.s.setVm vm0).vm = vm0 from rfl, hS.1.alike.findClass]; exact hown0
  exact Go.of (fun t k => XS.lload X.here hx rfl (hb hby hd) hl k) K
theorem k_aloadN {k : Fin 4} {v : Value} (G : Ctx Γ Z EL own bytes maxl ret nm rm hs0) (X : W Γ n0 T h C S sf) (hd : decode bytes pc = .ok (.aload_n k, 1)) (hp : pc + 1 = pc') (hl : Ls[k.val]? = some (.val v)) (hv : v.isRef = true) (K : Go Γ n0 Q T (mkF Γ.m pc' Ls (v :: st))) : Go Γ n0 Q T (mkF Γ.m pc Ls (st)) := by
  subst hp
  obtain ⟨hx, hZ0, hown0, hby, hml, hret, hnm, hlk, hR, hsH, hzz, hel, hew⟩ := G
  subst hzz hel
  obtain ⟨aw, hew⟩ := hew
  obtain ⟨L, vm0, k0, X, e, N, hS, hk, HD⟩ := X
  have hZ : Γ.Z.Warmed39 (Γ.s.setVm vm0).vm := State.Warmed39.trans hZ0 hS.1
  have hown : (Γ.s.setVm vm0).vm.findClass own = some Γ.m.cls := by rw [show (Γ.s.setVm vm0).vm = vm0 from rfl, hS.1.alike.findClass]; exact hown0
  exact Go.of (fun t k => XS.aloadN X.here hx rfl (hb hby hd) hl hv k) K
theorem k_aload {k : Nat} {v : Value} (G : Ctx Γ Z EL own bytes maxl ret nm rm hs0) (X : W Γ n0 T h C S sf) (hd : decode bytes pc = .ok (.aload k, 2)) (hp : pc + 2 = pc') (hl : Ls[k]? = some (.val v)) (hv : v.isRef = true) (K : Go Γ n0 Q T (mkF Γ.m pc' Ls (v :: st))) : Go Γ n0 Q T (mkF Γ.m pc Ls (st)) := by
  subst hp
  obtain ⟨hx, hZ0, hown0, hby, hml, hret, hnm, hlk, hR, hsH, hzz, hel, hew⟩ := G
  subst hzz hel
  obtain ⟨aw, hew⟩ := hew
  obtain ⟨L, vm0, k0, X, e, N, hS, hk, HD⟩ := X
  have hZ : Γ.Z.Warmed39 (Γ.s.setVm vm0).vm := State.Warmed39.trans hZ0 hS.1
  have hown : (Γ.s.setVm vm0).vm.findClass own = some Γ.m.cls := by rw [show (Γ.s.setVm vm0).vm = vm0 from rfl, hS.1.alike.findClass]; exact hown0
  exact Go.of (fun t k => XS.aload X.here hx rfl (hb hby hd) hl hv k) K
theorem k_istoreN {k : Fin 4} {v : Int32} {l' : Array Slot} (G : Ctx Γ Z EL own bytes maxl ret nm rm hs0) (X : W Γ n0 T h C S sf) (hd : decode bytes pc = .ok (.istore_n k, 1)) (hp : pc + 1 = pc') (hl : storeLocals Ls k.val (.int v) = some l') (K : Go Γ n0 Q T (mkF Γ.m pc' l' (st))) : Go Γ n0 Q T (mkF Γ.m pc Ls (.int v :: st)) := by
  subst hp
  obtain ⟨hx, hZ0, hown0, hby, hml, hret, hnm, hlk, hR, hsH, hzz, hel, hew⟩ := G
  subst hzz hel
  obtain ⟨aw, hew⟩ := hew
  obtain ⟨L, vm0, k0, X, e, N, hS, hk, HD⟩ := X
  have hZ : Γ.Z.Warmed39 (Γ.s.setVm vm0).vm := State.Warmed39.trans hZ0 hS.1
  have hown : (Γ.s.setVm vm0).vm.findClass own = some Γ.m.cls := by rw [show (Γ.s.setVm vm0).vm = vm0 from rfl, hS.1.alike.findClass]; exact hown0
  exact Go.of (fun t k => XS.istoreN X.here hx rfl (hb hby hd) rfl hl k) K
theorem k_istore {k : Nat} {v : Int32} {l' : Array Slot} (G : Ctx Γ Z EL own bytes maxl ret nm rm hs0) (X : W Γ n0 T h C S sf) (hd : decode bytes pc = .ok (.istore k, 2)) (hp : pc + 2 = pc') (hl : storeLocals Ls k (.int v) = some l') (K : Go Γ n0 Q T (mkF Γ.m pc' l' (st))) : Go Γ n0 Q T (mkF Γ.m pc Ls (.int v :: st)) := by
  subst hp
  obtain ⟨hx, hZ0, hown0, hby, hml, hret, hnm, hlk, hR, hsH, hzz, hel, hew⟩ := G
  subst hzz hel
  obtain ⟨aw, hew⟩ := hew
  obtain ⟨L, vm0, k0, X, e, N, hS, hk, HD⟩ := X
  have hZ : Γ.Z.Warmed39 (Γ.s.setVm vm0).vm := State.Warmed39.trans hZ0 hS.1
  have hown : (Γ.s.setVm vm0).vm.findClass own = some Γ.m.cls := by rw [show (Γ.s.setVm vm0).vm = vm0 from rfl, hS.1.alike.findClass]; exact hown0
  exact Go.of (fun t k => XS.istore X.here hx rfl (hb hby hd) rfl hl k) K
theorem k_lstoreN {k : Fin 4} {v : Int64} {l' : Array Slot} (G : Ctx Γ Z EL own bytes maxl ret nm rm hs0) (X : W Γ n0 T h C S sf) (hd : decode bytes pc = .ok (.lstore_n k, 1)) (hp : pc + 1 = pc') (hl : storeLocals Ls k.val (.long v) = some l') (K : Go Γ n0 Q T (mkF Γ.m pc' l' (st))) : Go Γ n0 Q T (mkF Γ.m pc Ls (.long v :: st)) := by
  subst hp
  obtain ⟨hx, hZ0, hown0, hby, hml, hret, hnm, hlk, hR, hsH, hzz, hel, hew⟩ := G
  subst hzz hel
  obtain ⟨aw, hew⟩ := hew
  obtain ⟨L, vm0, k0, X, e, N, hS, hk, HD⟩ := X
  have hZ : Γ.Z.Warmed39 (Γ.s.setVm vm0).vm := State.Warmed39.trans hZ0 hS.1
  have hown : (Γ.s.setVm vm0).vm.findClass own = some Γ.m.cls := by rw [show (Γ.s.setVm vm0).vm = vm0 from rfl, hS.1.alike.findClass]; exact hown0
  exact Go.of (fun t k => XS.lstoreN X.here hx rfl (hb hby hd) rfl hl k) K
theorem k_lstore {k : Nat} {v : Int64} {l' : Array Slot} (G : Ctx Γ Z EL own bytes maxl ret nm rm hs0) (X : W Γ n0 T h C S sf) (hd : decode bytes pc = .ok (.lstore k, 2)) (hp : pc + 2 = pc') (hl : storeLocals Ls k (.long v) = some l') (K : Go Γ n0 Q T (mkF Γ.m pc' l' (st))) : Go Γ n0 Q T (mkF Γ.m pc Ls (.long v :: st)) := by
  subst hp
  obtain ⟨hx, hZ0, hown0, hby, hml, hret, hnm, hlk, hR, hsH, hzz, hel, hew⟩ := G
  subst hzz hel
  obtain ⟨aw, hew⟩ := hew
  obtain ⟨L, vm0, k0, X, e, N, hS, hk, HD⟩ := X
  have hZ : Γ.Z.Warmed39 (Γ.s.setVm vm0).vm := State.Warmed39.trans hZ0 hS.1
  have hown : (Γ.s.setVm vm0).vm.findClass own = some Γ.m.cls := by rw [show (Γ.s.setVm vm0).vm = vm0 from rfl, hS.1.alike.findClass]; exact hown0
  exact Go.of (fun t k => XS.lstore X.here hx rfl (hb hby hd) rfl hl k) K
theorem k_astoreN {k : Fin 4} {v : Value} {l' : Array Slot} (G : Ctx Γ Z EL own bytes maxl ret nm rm hs0) (X : W Γ n0 T h C S sf) (hd : decode bytes pc = .ok (.astore_n k, 1)) (hp : pc + 1 = pc') (hv : v.isRef = true) (hl : storeLocals Ls k.val v = some l') (K : Go Γ n0 Q T (mkF Γ.m pc' l' (st))) : Go Γ n0 Q T (mkF Γ.m pc Ls (v :: st)) := by
  subst hp
  obtain ⟨hx, hZ0, hown0, hby, hml, hret, hnm, hlk, hR, hsH, hzz, hel, hew⟩ := G
  subst hzz hel
  obtain ⟨aw, hew⟩ := hew
  obtain ⟨L, vm0, k0, X, e, N, hS, hk, HD⟩ := X
  have hZ : Γ.Z.Warmed39 (Γ.s.setVm vm0).vm := State.Warmed39.trans hZ0 hS.1
  have hown : (Γ.s.setVm vm0).vm.findClass own = some Γ.m.cls := by rw [show (Γ.s.setVm vm0).vm = vm0 from rfl, hS.1.alike.findClass]; exact hown0
  exact Go.of (fun t k => XS.astoreN X.here hx rfl (hb hby hd) rfl hv hl k) K
theorem k_astore {k : Nat} {v : Value} {l' : Array Slot} (G : Ctx Γ Z EL own bytes maxl ret nm rm hs0) (X : W Γ n0 T h C S sf) (hd : decode bytes pc = .ok (.astore k, 2)) (hp : pc + 2 = pc') (hv : v.isRef = true) (hl : storeLocals Ls k v = some l') (K : Go Γ n0 Q T (mkF Γ.m pc' l' (st))) : Go Γ n0 Q T (mkF Γ.m pc Ls (v :: st)) := by
  subst hp
  obtain ⟨hx, hZ0, hown0, hby, hml, hret, hnm, hlk, hR, hsH, hzz, hel, hew⟩ := G
  subst hzz hel
  obtain ⟨aw, hew⟩ := hew
  obtain ⟨L, vm0, k0, X, e, N, hS, hk, HD⟩ := X
  have hZ : Γ.Z.Warmed39 (Γ.s.setVm vm0).vm := State.Warmed39.trans hZ0 hS.1
  have hown : (Γ.s.setVm vm0).vm.findClass own = some Γ.m.cls := by rw [show (Γ.s.setVm vm0).vm = vm0 from rfl, hS.1.alike.findClass]; exact hown0
  exact Go.of (fun t k => XS.astore X.here hx rfl (hb hby hd) rfl hv hl k) K
theorem k_iconst {i : Int} {z : Int32} (G : Ctx Γ Z EL own bytes maxl ret nm rm hs0) (X : W Γ n0 T h C S sf) (hd : decode bytes pc = .ok (.iconst i, 1)) (hp : pc + 1 = pc') (hz : Int32.ofInt i = z) (K : Go Γ n0 Q T (mkF Γ.m pc' Ls (.int z :: st))) : Go Γ n0 Q T (mkF Γ.m pc Ls (st)) := by
  subst hp
  obtain ⟨hx, hZ0, hown0, hby, hml, hret, hnm, hlk, hR, hsH, hzz, hel, hew⟩ := G
  subst hzz hel
  obtain ⟨aw, hew⟩ := hew
  obtain ⟨L, vm0, k0, X, e, N, hS, hk, HD⟩ := X
  have hZ : Γ.Z.Warmed39 (Γ.s.setVm vm0).vm := State.Warmed39.trans hZ0 hS.1
  have hown : (Γ.s.setVm vm0).vm.findClass own = some Γ.m.cls := by rw [show (Γ.s.setVm vm0).vm = vm0 from rfl, hS.1.alike.findClass]; exact hown0
  subst hz
  exact Go.of (fun t k => XS.iconst X.here hx rfl (hb hby hd) k) K
theorem k_bipush {i : Int} {z : Int32} (G : Ctx Γ Z EL own bytes maxl ret nm rm hs0) (X : W Γ n0 T h C S sf) (hd : decode bytes pc = .ok (.bipush i, 2)) (hp : pc + 2 = pc') (hz : (Int8.ofInt i).toInt32 = z) (K : Go Γ n0 Q T (mkF Γ.m pc' Ls (.int z :: st))) : Go Γ n0 Q T (mkF Γ.m pc Ls (st)) := by
  subst hp
  obtain ⟨hx, hZ0, hown0, hby, hml, hret, hnm, hlk, hR, hsH, hzz, hel, hew⟩ := G
  subst hzz hel
  obtain ⟨aw, hew⟩ := hew
  obtain ⟨L, vm0, k0, X, e, N, hS, hk, HD⟩ := X
  have hZ : Γ.Z.Warmed39 (Γ.s.setVm vm0).vm := State.Warmed39.trans hZ0 hS.1
  have hown : (Γ.s.setVm vm0).vm.findClass own = some Γ.m.cls := by rw [show (Γ.s.setVm vm0).vm = vm0 from rfl, hS.1.alike.findClass]; exact hown0
  subst hz
  exact Go.of (fun t k => XS.bipush X.here hx rfl (hb hby hd) k) K
theorem k_sipush {i : Int} {z : Int32} (G : Ctx Γ Z EL own bytes maxl ret nm rm hs0) (X : W Γ n0 T h C S sf) (hd : decode bytes pc = .ok (.sipush i, 3)) (hp : pc + 3 = pc') (hz : (Int16.ofInt i).toInt32 = z) (K : Go Γ n0 Q T (mkF Γ.m pc' Ls (.int z :: st))) : Go Γ n0 Q T (mkF Γ.m pc Ls (st)) := by
  subst hp
  obtain ⟨hx, hZ0, hown0, hby, hml, hret, hnm, hlk, hR, hsH, hzz, hel, hew⟩ := G
  subst hzz hel
  obtain ⟨aw, hew⟩ := hew
  obtain ⟨L, vm0, k0, X, e, N, hS, hk, HD⟩ := X
  have hZ : Γ.Z.Warmed39 (Γ.s.setVm vm0).vm := State.Warmed39.trans hZ0 hS.1
  have hown : (Γ.s.setVm vm0).vm.findClass own = some Γ.m.cls := by rw [show (Γ.s.setVm vm0).vm = vm0 from rfl, hS.1.alike.findClass]; exact hown0
  subst hz
  exact Go.of (fun t k => XS.sipush X.here hx rfl (hb hby hd) k) K
theorem k_lconst {i : Fin 2} {z : Int64} (G : Ctx Γ Z EL own bytes maxl ret nm rm hs0) (X : W Γ n0 T h C S sf) (hd : decode bytes pc = .ok (.lconst i, 1)) (hp : pc + 1 = pc') (hz : Int64.ofNat i = z) (K : Go Γ n0 Q T (mkF Γ.m pc' Ls (.long z :: st))) : Go Γ n0 Q T (mkF Γ.m pc Ls (st)) := by
  subst hp
  obtain ⟨hx, hZ0, hown0, hby, hml, hret, hnm, hlk, hR, hsH, hzz, hel, hew⟩ := G
  subst hzz hel
  obtain ⟨aw, hew⟩ := hew
  obtain ⟨L, vm0, k0, X, e, N, hS, hk, HD⟩ := X
  have hZ : Γ.Z.Warmed39 (Γ.s.setVm vm0).vm := State.Warmed39.trans hZ0 hS.1
  have hown : (Γ.s.setVm vm0).vm.findClass own = some Γ.m.cls := by rw [show (Γ.s.setVm vm0).vm = vm0 from rfl, hS.1.alike.findClass]; exact hown0
  subst hz
  exact Go.of (fun t k => XS.lconst X.here hx rfl (hb hby hd) k) K
theorem k_anull  (G : Ctx Γ Z EL own bytes maxl ret nm rm hs0) (X : W Γ n0 T h C S sf) (hd : decode bytes pc = .ok (.aconst_null, 1)) (hp : pc + 1 = pc')  (K : Go Γ n0 Q T (mkF Γ.m pc' Ls (.null :: st))) : Go Γ n0 Q T (mkF Γ.m pc Ls (st)) := by
  subst hp
  obtain ⟨hx, hZ0, hown0, hby, hml, hret, hnm, hlk, hR, hsH, hzz, hel, hew⟩ := G
  subst hzz hel
  obtain ⟨aw, hew⟩ := hew
  obtain ⟨L, vm0, k0, X, e, N, hS, hk, HD⟩ := X
  have hZ : Γ.Z.Warmed39 (Γ.s.setVm vm0).vm := State.Warmed39.trans hZ0 hS.1
  have hown : (Γ.s.setVm vm0).vm.findClass own = some Γ.m.cls := by rw [show (Γ.s.setVm vm0).vm = vm0 from rfl, hS.1.alike.findClass]; exact hown0
  exact Go.of (fun t k => XS.aconstNull X.here hx rfl (hb hby hd) k) K
theorem k_iadd {x y z : Int32} (G : Ctx Γ Z EL own bytes maxl ret nm rm hs0) (X : W Γ n0 T h C S sf) (hd : decode bytes pc = .ok (.iadd, 1)) (hp : pc + 1 = pc') (hz : x + y = z) (K : Go Γ n0 Q T (mkF Γ.m pc' Ls (.int z :: st))) : Go Γ n0 Q T (mkF Γ.m pc Ls (.int y :: .int x :: st)) := by
  subst hp
  obtain ⟨hx, hZ0, hown0, hby, hml, hret, hnm, hlk, hR, hsH, hzz, hel, hew⟩ := G
  subst hzz hel
  obtain ⟨aw, hew⟩ := hew
  obtain ⟨L, vm0, k0, X, e, N, hS, hk, HD⟩ := X
  have hZ : Γ.Z.Warmed39 (Γ.s.setVm vm0).vm := State.Warmed39.trans hZ0 hS.1
  have hown : (Γ.s.setVm vm0).vm.findClass own = some Γ.m.cls := by rw [show (Γ.s.setVm vm0).vm = vm0 from rfl, hS.1.alike.findClass]; exact hown0
  subst hz
  exact Go.of (fun t k => XS.iadd X.here hx rfl (hb hby hd) rfl k) K
theorem k_isub {x y z : Int32} (G : Ctx Γ Z EL own bytes maxl ret nm rm hs0) (X : W Γ n0 T h C S sf) (hd : decode bytes pc = .ok (.isub, 1)) (hp : pc + 1 = pc') (hz : x - y = z) (K : Go Γ n0 Q T (mkF Γ.m pc' Ls (.int z :: st))) : Go Γ n0 Q T (mkF Γ.m pc Ls (.int y :: .int x :: st)) := by
  subst hp
  obtain ⟨hx, hZ0, hown0, hby, hml, hret, hnm, hlk, hR, hsH, hzz, hel, hew⟩ := G
  subst hzz hel
  obtain ⟨aw, hew⟩ := hew
  obtain ⟨L, vm0, k0, X, e, N, hS, hk, HD⟩ := X
  have hZ : Γ.Z.Warmed39 (Γ.s.setVm vm0).vm := State.Warmed39.trans hZ0 hS.1
  have hown : (Γ.s.setVm vm0).vm.findClass own = some Γ.m.cls := by rw [show (Γ.s.setVm vm0).vm = vm0 from rfl, hS.1.alike.findClass]; exact hown0
  subst hz
  exact Go.of (fun t k => XS.isub X.here hx rfl (hb hby hd) rfl k) K
theorem k_imul {x y z : Int32} (G : Ctx Γ Z EL own bytes maxl ret nm rm hs0) (X : W Γ n0 T h C S sf) (hd : decode bytes pc = .ok (.imul, 1)) (hp : pc + 1 = pc') (hz : x * y = z) (K : Go Γ n0 Q T (mkF Γ.m pc' Ls (.int z :: st))) : Go Γ n0 Q T (mkF Γ.m pc Ls (.int y :: .int x :: st)) := by
  subst hp
  obtain ⟨hx, hZ0, hown0, hby, hml, hret, hnm, hlk, hR, hsH, hzz, hel, hew⟩ := G
  subst hzz hel
  obtain ⟨aw, hew⟩ := hew
  obtain ⟨L, vm0, k0, X, e, N, hS, hk, HD⟩ := X
  have hZ : Γ.Z.Warmed39 (Γ.s.setVm vm0).vm := State.Warmed39.trans hZ0 hS.1
  have hown : (Γ.s.setVm vm0).vm.findClass own = some Γ.m.cls := by rw [show (Γ.s.setVm vm0).vm = vm0 from rfl, hS.1.alike.findClass]; exact hown0
  subst hz
  exact Go.of (fun t k => XS.imul X.here hx rfl (hb hby hd) rfl k) K
theorem k_iand {x y z : Int32} (G : Ctx Γ Z EL own bytes maxl ret nm rm hs0) (X : W Γ n0 T h C S sf) (hd : decode bytes pc = .ok (.iand, 1)) (hp : pc + 1 = pc') (hz : x &&& y = z) (K : Go Γ n0 Q T (mkF Γ.m pc' Ls (.int z :: st))) : Go Γ n0 Q T (mkF Γ.m pc Ls (.int y :: .int x :: st)) := by
  subst hp
  obtain ⟨hx, hZ0, hown0, hby, hml, hret, hnm, hlk, hR, hsH, hzz, hel, hew⟩ := G
  subst hzz hel
  obtain ⟨aw, hew⟩ := hew
  obtain ⟨L, vm0, k0, X, e, N, hS, hk, HD⟩ := X
  have hZ : Γ.Z.Warmed39 (Γ.s.setVm vm0).vm := State.Warmed39.trans hZ0 hS.1
  have hown : (Γ.s.setVm vm0).vm.findClass own = some Γ.m.cls := by rw [show (Γ.s.setVm vm0).vm = vm0 from rfl, hS.1.alike.findClass]; exact hown0
  subst hz
  exact Go.of (fun t k => XS.iand X.here hx rfl (hb hby hd) rfl k) K
theorem k_ishl {x y z : Int32} (G : Ctx Γ Z EL own bytes maxl ret nm rm hs0) (X : W Γ n0 T h C S sf) (hd : decode bytes pc = .ok (.ishl, 1)) (hp : pc + 1 = pc') (hz : x <<< (y &&& 31) = z) (K : Go Γ n0 Q T (mkF Γ.m pc' Ls (.int z :: st))) : Go Γ n0 Q T (mkF Γ.m pc Ls (.int y :: .int x :: st)) := by
  subst hp
  obtain ⟨hx, hZ0, hown0, hby, hml, hret, hnm, hlk, hR, hsH, hzz, hel, hew⟩ := G
  subst hzz hel
  obtain ⟨aw, hew⟩ := hew
  obtain ⟨L, vm0, k0, X, e, N, hS, hk, HD⟩ := X
  have hZ : Γ.Z.Warmed39 (Γ.s.setVm vm0).vm := State.Warmed39.trans hZ0 hS.1
  have hown : (Γ.s.setVm vm0).vm.findClass own = some Γ.m.cls := by rw [show (Γ.s.setVm vm0).vm = vm0 from rfl, hS.1.alike.findClass]; exact hown0
  subst hz
  exact Go.of (fun t k => XS.ishl X.here hx rfl (hb hby hd) rfl k) K
theorem k_ishr {x y z : Int32} (G : Ctx Γ Z EL own bytes maxl ret nm rm hs0) (X : W Γ n0 T h C S sf) (hd : decode bytes pc = .ok (.ishr, 1)) (hp : pc + 1 = pc') (hz : x >>> (y &&& 31) = z) (K : Go Γ n0 Q T (mkF Γ.m pc' Ls (.int z :: st))) : Go Γ n0 Q T (mkF Γ.m pc Ls (.int y :: .int x :: st)) := by
  subst hp
  obtain ⟨hx, hZ0, hown0, hby, hml, hret, hnm, hlk, hR, hsH, hzz, hel, hew⟩ := G
  subst hzz hel
  obtain ⟨aw, hew⟩ := hew
  obtain ⟨L, vm0, k0, X, e, N, hS, hk, HD⟩ := X
  have hZ : Γ.Z.Warmed39 (Γ.s.setVm vm0).vm := State.Warmed39.trans hZ0 hS.1
  have hown : (Γ.s.setVm vm0).vm.findClass own = some Γ.m.cls := by rw [show (Γ.s.setVm vm0).vm = vm0 from rfl, hS.1.alike.findClass]; exact hown0
  subst hz
  exact Go.of (fun t k => XS.ishr X.here hx rfl (hb hby hd) rfl k) K
theorem k_lsub {x y z : Int64} (G : Ctx Γ Z EL own bytes maxl ret nm rm hs0) (X : W Γ n0 T h C S sf) (hd : decode bytes pc = .ok (.lsub, 1)) (hp : pc + 1 = pc') (hz : x - y = z) (K : Go Γ n0 Q T (mkF Γ.m pc' Ls (.long z :: st))) : Go Γ n0 Q T (mkF Γ.m pc Ls (.long y :: .long x :: st)) := by
  subst hp
  obtain ⟨hx, hZ0, hown0, hby, hml, hret, hnm, hlk, hR, hsH, hzz, hel, hew⟩ := G
  subst hzz hel
  obtain ⟨aw, hew⟩ := hew
  obtain ⟨L, vm0, k0, X, e, N, hS, hk, HD⟩ := X
  have hZ : Γ.Z.Warmed39 (Γ.s.setVm vm0).vm := State.Warmed39.trans hZ0 hS.1
  have hown : (Γ.s.setVm vm0).vm.findClass own = some Γ.m.cls := by rw [show (Γ.s.setVm vm0).vm = vm0 from rfl, hS.1.alike.findClass]; exact hown0
  subst hz
  exact Go.of (fun t k => XS.lsub X.here hx rfl (hb hby hd) rfl k) K
theorem k_lmul {x y z : Int64} (G : Ctx Γ Z EL own bytes maxl ret nm rm hs0) (X : W Γ n0 T h C S sf) (hd : decode bytes pc = .ok (.lmul, 1)) (hp : pc + 1 = pc') (hz : x * y = z) (K : Go Γ n0 Q T (mkF Γ.m pc' Ls (.long z :: st))) : Go Γ n0 Q T (mkF Γ.m pc Ls (.long y :: .long x :: st)) := by
  subst hp
  obtain ⟨hx, hZ0, hown0, hby, hml, hret, hnm, hlk, hR, hsH, hzz, hel, hew⟩ := G
  subst hzz hel
  obtain ⟨aw, hew⟩ := hew
  obtain ⟨L, vm0, k0, X, e, N, hS, hk, HD⟩ := X
  have hZ : Γ.Z.Warmed39 (Γ.s.setVm vm0).vm := State.Warmed39.trans hZ0 hS.1
  have hown : (Γ.s.setVm vm0).vm.findClass own = some Γ.m.cls := by rw [show (Γ.s.setVm vm0).vm = vm0 from rfl, hS.1.alike.findClass]; exact hown0
  subst hz
  exact Go.of (fun t k => XS.lmul X.here hx rfl (hb hby hd) rfl k) K
theorem k_land {x y z : Int64} (G : Ctx Γ Z EL own bytes maxl ret nm rm hs0) (X : W Γ n0 T h C S sf) (hd : decode bytes pc = .ok (.land, 1)) (hp : pc + 1 = pc') (hz : x &&& y = z) (K : Go Γ n0 Q T (mkF Γ.m pc' Ls (.long z :: st))) : Go Γ n0 Q T (mkF Γ.m pc Ls (.long y :: .long x :: st)) := by
  subst hp
  obtain ⟨hx, hZ0, hown0, hby, hml, hret, hnm, hlk, hR, hsH, hzz, hel, hew⟩ := G
  subst hzz hel
  obtain ⟨aw, hew⟩ := hew
  obtain ⟨L, vm0, k0, X, e, N, hS, hk, HD⟩ := X
  have hZ : Γ.Z.Warmed39 (Γ.s.setVm vm0).vm := State.Warmed39.trans hZ0 hS.1
  have hown : (Γ.s.setVm vm0).vm.findClass own = some Γ.m.cls := by rw [show (Γ.s.setVm vm0).vm = vm0 from rfl, hS.1.alike.findClass]; exact hown0
  subst hz
  exact Go.of (fun t k => XS.land X.here hx rfl (hb hby hd) rfl k) K
theorem k_idiv {x y z : Int32} (G : Ctx Γ Z EL own bytes maxl ret nm rm hs0) (X : W Γ n0 T h C S sf) (hd : decode bytes pc = .ok (.idiv, 1)) (hp : pc + 1 = pc') (hy : y ≠ 0) (hz : x / y = z) (K : Go Γ n0 Q T (mkF Γ.m pc' Ls (.int z :: st))) : Go Γ n0 Q T (mkF Γ.m pc Ls (.int y :: .int x :: st)) := by
  subst hp
  obtain ⟨hx, hZ0, hown0, hby, hml, hret, hnm, hlk, hR, hsH, hzz, hel, hew⟩ := G
  subst hzz hel
  obtain ⟨aw, hew⟩ := hew
  obtain ⟨L, vm0, k0, X, e, N, hS, hk, HD⟩ := X
  have hZ : Γ.Z.Warmed39 (Γ.s.setVm vm0).vm := State.Warmed39.trans hZ0 hS.1
  have hown : (Γ.s.setVm vm0).vm.findClass own = some Γ.m.cls := by rw [show (Γ.s.setVm vm0).vm = vm0 from rfl, hS.1.alike.findClass]; exact hown0
  subst hz
  exact Go.of (fun t k => XS.idiv X.here hx rfl (hb hby hd) rfl hy k) K
theorem k_irem {x y z : Int32} (G : Ctx Γ Z EL own bytes maxl ret nm rm hs0) (X : W Γ n0 T h C S sf) (hd : decode bytes pc = .ok (.irem, 1)) (hp : pc + 1 = pc') (hy : y ≠ 0) (hz : x % y = z) (K : Go Γ n0 Q T (mkF Γ.m pc' Ls (.int z :: st))) : Go Γ n0 Q T (mkF Γ.m pc Ls (.int y :: .int x :: st)) := by
  subst hp
  obtain ⟨hx, hZ0, hown0, hby, hml, hret, hnm, hlk, hR, hsH, hzz, hel, hew⟩ := G
  subst hzz hel
  obtain ⟨aw, hew⟩ := hew
  obtain ⟨L, vm0, k0, X, e, N, hS, hk, HD⟩ := X
  have hZ : Γ.Z.Warmed39 (Γ.s.setVm vm0).vm := State.Warmed39.trans hZ0 hS.1
  have hown : (Γ.s.setVm vm0).vm.findClass own = some Γ.m.cls := by rw [show (Γ.s.setVm vm0).vm = vm0 from rfl, hS.1.alike.findClass]; exact hown0
  subst hz
  exact Go.of (fun t k => iremM X hx rfl (hb hby hd) rfl hy k) K
theorem k_ldiv {x y z : Int64} (G : Ctx Γ Z EL own bytes maxl ret nm rm hs0) (X : W Γ n0 T h C S sf) (hd : decode bytes pc = .ok (.ldiv, 1)) (hp : pc + 1 = pc') (hy : y ≠ 0) (hz : x / y = z) (K : Go Γ n0 Q T (mkF Γ.m pc' Ls (.long z :: st))) : Go Γ n0 Q T (mkF Γ.m pc Ls (.long y :: .long x :: st)) := by
  subst hp
  obtain ⟨hx, hZ0, hown0, hby, hml, hret, hnm, hlk, hR, hsH, hzz, hel, hew⟩ := G
  subst hzz hel
  obtain ⟨aw, hew⟩ := hew
  obtain ⟨L, vm0, k0, X, e, N, hS, hk, HD⟩ := X
  have hZ : Γ.Z.Warmed39 (Γ.s.setVm vm0).vm := State.Warmed39.trans hZ0 hS.1
  have hown : (Γ.s.setVm vm0).vm.findClass own = some Γ.m.cls := by rw [show (Γ.s.setVm vm0).vm = vm0 from rfl, hS.1.alike.findClass]; exact hown0
  subst hz
  exact Go.of (fun t k => XS.ldiv X.here hx rfl (hb hby hd) rfl hy k) K
theorem k_lcmp {x y : Int64} {z : Int32} (G : Ctx Γ Z EL own bytes maxl ret nm rm hs0) (X : W Γ n0 T h C S sf) (hd : decode bytes pc = .ok (.lcmp, 1)) (hp : pc + 1 = pc') (hz : (if x > y then (1 : Int32) else if x = y then 0 else -1) = z) (K : Go Γ n0 Q T (mkF Γ.m pc' Ls (.int z :: st))) : Go Γ n0 Q T (mkF Γ.m pc Ls (.long y :: .long x :: st)) := by
  subst hp
  obtain ⟨hx, hZ0, hown0, hby, hml, hret, hnm, hlk, hR, hsH, hzz, hel, hew⟩ := G
  subst hzz hel
  obtain ⟨aw, hew⟩ := hew
  obtain ⟨L, vm0, k0, X, e, N, hS, hk, HD⟩ := X
  have hZ : Γ.Z.Warmed39 (Γ.s.setVm vm0).vm := State.Warmed39.trans hZ0 hS.1
  have hown : (Γ.s.setVm vm0).vm.findClass own = some Γ.m.cls := by rw [show (Γ.s.setVm vm0).vm = vm0 from rfl, hS.1.alike.findClass]; exact hown0
  subst hz
  exact Go.of (fun t k => XS.lcmp X.here hx rfl (hb hby hd) rfl k) K
theorem k_ineg {x : Int32} {z : Int32} (G : Ctx Γ Z EL own bytes maxl ret nm rm hs0) (X : W Γ n0 T h C S sf) (hd : decode bytes pc = .ok (.ineg, 1)) (hp : pc + 1 = pc') (hz : -x = z) (K : Go Γ n0 Q T (mkF Γ.m pc' Ls (.int z :: st))) : Go Γ n0 Q T (mkF Γ.m pc Ls (.int x :: st)) := by
  subst hp
  obtain ⟨hx, hZ0, hown0, hby, hml, hret, hnm, hlk, hR, hsH, hzz, hel, hew⟩ := G
  subst hzz hel
  obtain ⟨aw, hew⟩ := hew
  obtain ⟨L, vm0, k0, X, e, N, hS, hk, HD⟩ := X
  have hZ : Γ.Z.Warmed39 (Γ.s.setVm vm0).vm := State.Warmed39.trans hZ0 hS.1
  have hown : (Γ.s.setVm vm0).vm.findClass own = some Γ.m.cls := by rw [show (Γ.s.setVm vm0).vm = vm0 from rfl, hS.1.alike.findClass]; exact hown0
  subst hz
  exact Go.of (fun t k => XS.ineg X.here hx rfl (hb hby hd) rfl k) K
theorem k_lneg {x : Int64} {z : Int64} (G : Ctx Γ Z EL own bytes maxl ret nm rm hs0) (X : W Γ n0 T h C S sf) (hd : decode bytes pc = .ok (.lneg, 1)) (hp : pc + 1 = pc') (hz : -x = z) (K : Go Γ n0 Q T (mkF Γ.m pc' Ls (.long z :: st))) : Go Γ n0 Q T (mkF Γ.m pc Ls (.long x :: st)) := by
  subst hp
  obtain ⟨hx, hZ0, hown0, hby, hml, hret, hnm, hlk, hR, hsH, hzz, hel, hew⟩ := G
  subst hzz hel
  obtain ⟨aw, hew⟩ := hew
  obtain ⟨L, vm0, k0, X, e, N, hS, hk, HD⟩ := X
  have hZ : Γ.Z.Warmed39 (Γ.s.setVm vm0).vm := State.Warmed39.trans hZ0 hS.1
  have hown : (Γ.s.setVm vm0).vm.findClass own = some Γ.m.cls := by rw [show (Γ.s.setVm vm0).vm = vm0 from rfl, hS.1.alike.findClass]; exact hown0
  subst hz
  exact Go.of (fun t k => XS.lneg X.here hx rfl (hb hby hd) rfl k) K
theorem k_l2i {x : Int64} {z : Int32} (G : Ctx Γ Z EL own bytes maxl ret nm rm hs0) (X : W Γ n0 T h C S sf) (hd : decode bytes pc = .ok (.l2i, 1)) (hp : pc + 1 = pc') (hz : x.toInt32 = z) (K : Go Γ n0 Q T (mkF Γ.m pc' Ls (.int z :: st))) : Go Γ n0 Q T (mkF Γ.m pc Ls (.long x :: st)) := by
  subst hp
  obtain ⟨hx, hZ0, hown0, hby, hml, hret, hnm, hlk, hR, hsH, hzz, hel, hew⟩ := G
  subst hzz hel
  obtain ⟨aw, hew⟩ := hew
  obtain ⟨L, vm0, k0, X, e, N, hS, hk, HD⟩ := X
  have hZ : Γ.Z.Warmed39 (Γ.s.setVm vm0).vm := State.Warmed39.trans hZ0 hS.1
  have hown : (Γ.s.setVm vm0).vm.findClass own = some Γ.m.cls := by rw [show (Γ.s.setVm vm0).vm = vm0 from rfl, hS.1.alike.findClass]; exact hown0
  subst hz
  exact Go.of (fun t k => XS.l2i X.here hx rfl (hb hby hd) rfl k) K
theorem k_i2b {x : Int32} {z : Int32} (G : Ctx Γ Z EL own bytes maxl ret nm rm hs0) (X : W Γ n0 T h C S sf) (hd : decode bytes pc = .ok (.i2b, 1)) (hp : pc + 1 = pc') (hz : x.toInt8.toInt32 = z) (K : Go Γ n0 Q T (mkF Γ.m pc' Ls (.int z :: st))) : Go Γ n0 Q T (mkF Γ.m pc Ls (.int x :: st)) := by
  subst hp
  obtain ⟨hx, hZ0, hown0, hby, hml, hret, hnm, hlk, hR, hsH, hzz, hel, hew⟩ := G
  subst hzz hel
  obtain ⟨aw, hew⟩ := hew
  obtain ⟨L, vm0, k0, X, e, N, hS, hk, HD⟩ := X
  have hZ : Γ.Z.Warmed39 (Γ.s.setVm vm0).vm := State.Warmed39.trans hZ0 hS.1
  have hown : (Γ.s.setVm vm0).vm.findClass own = some Γ.m.cls := by rw [show (Γ.s.setVm vm0).vm = vm0 from rfl, hS.1.alike.findClass]; exact hown0
  subst hz
  exact Go.of (fun t k => XS.i2b X.here hx rfl (hb hby hd) rfl k) K
theorem k_i2c {x : Int32} {z : Int32} (G : Ctx Γ Z EL own bytes maxl ret nm rm hs0) (X : W Γ n0 T h C S sf) (hd : decode bytes pc = .ok (.i2c, 1)) (hp : pc + 1 = pc') (hz : x.toUInt32.toUInt16.toUInt32.toInt32 = z) (K : Go Γ n0 Q T (mkF Γ.m pc' Ls (.int z :: st))) : Go Γ n0 Q T (mkF Γ.m pc Ls (.int x :: st)) := by
  subst hp
  obtain ⟨hx, hZ0, hown0, hby, hml, hret, hnm, hlk, hR, hsH, hzz, hel, hew⟩ := G
  subst hzz hel
  obtain ⟨aw, hew⟩ := hew
  obtain ⟨L, vm0, k0, X, e, N, hS, hk, HD⟩ := X
  have hZ : Γ.Z.Warmed39 (Γ.s.setVm vm0).vm := State.Warmed39.trans hZ0 hS.1
  have hown : (Γ.s.setVm vm0).vm.findClass own = some Γ.m.cls := by rw [show (Γ.s.setVm vm0).vm = vm0 from rfl, hS.1.alike.findClass]; exact hown0
  subst hz
  exact Go.of (fun t k => XS.i2c X.here hx rfl (hb hby hd) rfl k) K
theorem k_pop {x : Value} (G : Ctx Γ Z EL own bytes maxl ret nm rm hs0) (X : W Γ n0 T h C S sf) (hd : decode bytes pc = .ok (.pop, 1)) (hp : pc + 1 = pc') (hc : x.category = 1) (K : Go Γ n0 Q T (mkF Γ.m pc' Ls (st))) : Go Γ n0 Q T (mkF Γ.m pc Ls (x :: st)) := by
  subst hp
  obtain ⟨hx, hZ0, hown0, hby, hml, hret, hnm, hlk, hR, hsH, hzz, hel, hew⟩ := G
  subst hzz hel
  obtain ⟨aw, hew⟩ := hew
  obtain ⟨L, vm0, k0, X, e, N, hS, hk, HD⟩ := X
  have hZ : Γ.Z.Warmed39 (Γ.s.setVm vm0).vm := State.Warmed39.trans hZ0 hS.1
  have hown : (Γ.s.setVm vm0).vm.findClass own = some Γ.m.cls := by rw [show (Γ.s.setVm vm0).vm = vm0 from rfl, hS.1.alike.findClass]; exact hown0
  exact Go.of (fun t k => XS.pop X.here hx rfl (hb hby hd) rfl hc k) K
theorem k_dup {x : Value} (G : Ctx Γ Z EL own bytes maxl ret nm rm hs0) (X : W Γ n0 T h C S sf) (hd : decode bytes pc = .ok (.dup, 1)) (hp : pc + 1 = pc') (hc : x.category = 1) (K : Go Γ n0 Q T (mkF Γ.m pc' Ls (x :: x :: st))) : Go Γ n0 Q T (mkF Γ.m pc Ls (x :: st)) := by
  subst hp
  obtain ⟨hx, hZ0, hown0, hby, hml, hret, hnm, hlk, hR, hsH, hzz, hel, hew⟩ := G
  subst hzz hel
  obtain ⟨aw, hew⟩ := hew
  obtain ⟨L, vm0, k0, X, e, N, hS, hk, HD⟩ := X
  have hZ : Γ.Z.Warmed39 (Γ.s.setVm vm0).vm := State.Warmed39.trans hZ0 hS.1
  have hown : (Γ.s.setVm vm0).vm.findClass own = some Γ.m.cls := by rw [show (Γ.s.setVm vm0).vm = vm0 from rfl, hS.1.alike.findClass]; exact hown0
  exact Go.of (fun t k => XS.dup X.here hx rfl (hb hby hd) rfl hc k) K
theorem k_dupx1 {x y : Value} (G : Ctx Γ Z EL own bytes maxl ret nm rm hs0) (X : W Γ n0 T h C S sf) (hd : decode bytes pc = .ok (.dup_x1, 1)) (hp : pc + 1 = pc') (hc : x.category = 1) (hc' : y.category = 1) (K : Go Γ n0 Q T (mkF Γ.m pc' Ls (x :: y :: x :: st))) : Go Γ n0 Q T (mkF Γ.m pc Ls (x :: y :: st)) := by
  subst hp
  obtain ⟨hx, hZ0, hown0, hby, hml, hret, hnm, hlk, hR, hsH, hzz, hel, hew⟩ := G
  subst hzz hel
  obtain ⟨aw, hew⟩ := hew
  obtain ⟨L, vm0, k0, X, e, N, hS, hk, HD⟩ := X
  have hZ : Γ.Z.Warmed39 (Γ.s.setVm vm0).vm := State.Warmed39.trans hZ0 hS.1
  have hown : (Γ.s.setVm vm0).vm.findClass own = some Γ.m.cls := by rw [show (Γ.s.setVm vm0).vm = vm0 from rfl, hS.1.alike.findClass]; exact hown0
  exact Go.of (fun t k => XS.dupX1 X.here hx rfl (hb hby hd) rfl hc hc' k) K
theorem k_iinc {k : Nat} {cst : Int} {x z : Int32} {l' : Array Slot} (G : Ctx Γ Z EL own bytes maxl ret nm rm hs0) (X : W Γ n0 T h C S sf) (hd : decode bytes pc = .ok (.iinc k cst, 3)) (hp : pc + 3 = pc') (hl : Ls[k]? = some (.val (.int x))) (hz : x + Int32.ofInt cst = z) (hl' : storeLocals Ls k (.int z) = some l') (K : Go Γ n0 Q T (mkF Γ.m pc' l' (st))) : Go Γ n0 Q T (mkF Γ.m pc Ls (st)) := by
  subst hp
  obtain ⟨hx, hZ0, hown0, hby, hml, hret, hnm, hlk, hR, hsH, hzz, hel, hew⟩ := G
  subst hzz hel
  obtain ⟨aw, hew⟩ := hew
  obtain ⟨L, vm0, k0, X, e, N, hS, hk, HD⟩ := X
  have hZ : Γ.Z.Warmed39 (Γ.s.setVm vm0).vm := State.Warmed39.trans hZ0 hS.1
  have hown : (Γ.s.setVm vm0).vm.findClass own = some Γ.m.cls := by rw [show (Γ.s.setVm vm0).vm = vm0 from rfl, hS.1.alike.findClass]; exact hown0
  subst hz
  exact Go.of (fun t k => XS.iinc X.here hx rfl (hb hby hd) hl hl' k) K
theorem k_istoreS {k : Nat} {v : Int32} {o : Slot} {l' : Array Slot} (G : Ctx Γ Z EL own bytes maxl ret nm rm hs0) (X : W Γ n0 T h C S sf) (hd : decode bytes pc = .ok (.istore k, 2)) (hp : pc + 2 = pc') (hold : Ls[k]? = some o) (ho : o = .unset ∨ ∃ w, o = .val w ∧ w.category = 1) (hl : Ls.setIfInBounds k (.val (.int v)) = l') (K : Go Γ n0 Q T (mkF Γ.m pc' l' (st))) : Go Γ n0 Q T (mkF Γ.m pc Ls (.int v :: st)) := by
  subst hp
  obtain ⟨hx, hZ0, hown0, hby, hml, hret, hnm, hlk, hR, hsH, hzz, hel, hew⟩ := G
  subst hzz hel
  obtain ⟨aw, hew⟩ := hew
  obtain ⟨L, vm0, k0, X, e, N, hS, hk, HD⟩ := X
  have hZ : Γ.Z.Warmed39 (Γ.s.setVm vm0).vm := State.Warmed39.trans hZ0 hS.1
  have hown : (Γ.s.setVm vm0).vm.findClass own = some Γ.m.cls := by rw [show (Γ.s.setVm vm0).vm = vm0 from rfl, hS.1.alike.findClass]; exact hown0
  subst hl
  exact Go.of (fun t k => XS.istoreS X.here hx rfl (hb hby hd) rfl hold ho k) K
theorem k_goto {o : Int} (G : Ctx Γ Z EL own bytes maxl ret nm rm hs0) (X : W Γ n0 T h C S sf) (hd : decode bytes pc = .ok (.goto o, 3)) (ho : 0 ≤ (pc : Int) + o) (hp : ((pc : Int) + o).toNat = pc') (K : Go Γ n0 Q T (mkF Γ.m pc' Ls st)) : Go Γ n0 Q T (mkF Γ.m pc Ls st) := by
  obtain ⟨hx, hZ0, hown0, hby, hml, hret, hnm, hlk, hR, hsH, hzz, hel, hew⟩ := G
  subst hzz hel
  obtain ⟨aw, hew⟩ := hew
  obtain ⟨L, vm0, k0, X, e, N, hS, hk, HD⟩ := X
  have hZ : Γ.Z.Warmed39 (Γ.s.setVm vm0).vm := State.Warmed39.trans hZ0 hS.1
  have hown : (Γ.s.setVm vm0).vm.findClass own = some Γ.m.cls := by rw [show (Γ.s.setVm vm0).vm = vm0 from rfl, hS.1.alike.findClass]; exact hown0
  exact Go.of (fun t k => XS.goto X.here hx rfl (pc0 := pc) rfl (hb hby hd) ho hp k) K
theorem z32 : (0 : Int32).toInt = 0 := rfl
theorem hold_eq (x y : Int32) : (if_icmp.holds .eq x y = true → x = y) ∧ (if_icmp.holds .eq x y = false → x ≠ y) := by
  constructor <;> intro q <;> simp only [if_icmp.holds] at q <;> simp [Int32.lt_iff_toInt_lt, Int32.le_iff_toInt_le] at q ⊢ <;> first | exact q | omega
theorem hold0_eq (x : Int32) : (ifCond.holds .eq x = true → x = 0) ∧ (ifCond.holds .eq x = false → x ≠ 0) := by
  have z := z32
  constructor <;> intro q <;> simp only [ifCond.holds] at q <;> simp [Int32.lt_iff_toInt_lt, Int32.le_iff_toInt_le] at q ⊢ <;> first | exact q | omega
theorem k_icmp_eq {o : Int} {x y : Int32} {pc'' : Nat} (G : Ctx Γ Z EL own bytes maxl ret nm rm hs0) (X : W Γ n0 T h C S sf) (hd : decode bytes pc = .ok (.if_icmp .eq o, 3)) (hp : ((pc : Int) + o).toNat = pc') (ho : 0 ≤ (pc : Int) + o) (hp' : pc + 3 = pc'') (K : x = y → Go Γ n0 Q T (mkF Γ.m pc' Ls st)) (K' : x ≠ y → Go Γ n0 Q T (mkF Γ.m pc'' Ls st)) : Go Γ n0 Q T (mkF Γ.m pc Ls (.int y :: .int x :: st)) := by
  subst hp'
  obtain ⟨hx, hZ0, hown0, hby, hml, hret, hnm, hlk, hR, hsH, hzz, hel, hew⟩ := G
  subst hzz hel
  obtain ⟨aw, hew⟩ := hew
  obtain ⟨L, vm0, k0, X, e, N, hS, hk, HD⟩ := X
  have hZ : Γ.Z.Warmed39 (Γ.s.setVm vm0).vm := State.Warmed39.trans hZ0 hS.1
  have hown : (Γ.s.setVm vm0).vm.findClass own = some Γ.m.cls := by rw [show (Γ.s.setVm vm0).vm = vm0 from rfl, hS.1.alike.findClass]; exact hown0
  cases q : if_icmp.holds .eq x y
  · exact Go.of (fun t k => XS.icmpNo X.here hx rfl (hb hby hd) rfl q k) (K' ((hold_eq x y).2 q))
  · exact Go.of (fun t k => XS.icmpYes X.here hx rfl (pc0 := pc) rfl (hb hby hd) rfl q ho hp k) (K ((hold_eq x y).1 q))
theorem k_if_eq {o : Int} {x : Int32} {pc'' : Nat} (G : Ctx Γ Z EL own bytes maxl ret nm rm hs0) (X : W Γ n0 T h C S sf) (hd : decode bytes pc = .ok (.ifCond .eq o, 3)) (hp : ((pc : Int) + o).toNat = pc') (ho : 0 ≤ (pc : Int) + o) (hp' : pc + 3 = pc'') (K : x = 0 → Go Γ n0 Q T (mkF Γ.m pc' Ls st)) (K' : x ≠ 0 → Go Γ n0 Q T (mkF Γ.m pc'' Ls st)) : Go Γ n0 Q T (mkF Γ.m pc Ls (.int x :: st)) := by
  subst hp'
  obtain ⟨hx, hZ0, hown0, hby, hml, hret, hnm, hlk, hR, hsH, hzz, hel, hew⟩ := G
  subst hzz hel
  obtain ⟨aw, hew⟩ := hew
  obtain ⟨L, vm0, k0, X, e, N, hS, hk, HD⟩ := X
  have hZ : Γ.Z.Warmed39 (Γ.s.setVm vm0).vm := State.Warmed39.trans hZ0 hS.1
  have hown : (Γ.s.setVm vm0).vm.findClass own = some Γ.m.cls := by rw [show (Γ.s.setVm vm0).vm = vm0 from rfl, hS.1.alike.findClass]; exact hown0
  cases q : ifCond.holds .eq x
  · exact Go.of (fun t k => XS.ifNo X.here hx rfl (hb hby hd) rfl q k) (K' ((hold0_eq x).2 q))
  · exact Go.of (fun t k => XS.ifYes X.here hx rfl (pc0 := pc) rfl (hb hby hd) rfl q ho hp k) (K ((hold0_eq x).1 q))
theorem hold_ne (x y : Int32) : (if_icmp.holds .ne x y = true → x ≠ y) ∧ (if_icmp.holds .ne x y = false → x = y) := by
  constructor <;> intro q <;> simp only [if_icmp.holds] at q <;> simp [Int32.lt_iff_toInt_lt, Int32.le_iff_toInt_le] at q ⊢ <;> first | exact q | omega
theorem hold0_ne (x : Int32) : (ifCond.holds .ne x = true → x ≠ 0) ∧ (ifCond.holds .ne x = false → x = 0) := by
  have z := z32
  constructor <;> intro q <;> simp only [ifCond.holds] at q <;> simp [Int32.lt_iff_toInt_lt, Int32.le_iff_toInt_le] at q ⊢ <;> first | exact q | omega
theorem k_icmp_ne {o : Int} {x y : Int32} {pc'' : Nat} (G : Ctx Γ Z EL own bytes maxl ret nm rm hs0) (X : W Γ n0 T h C S sf) (hd : decode bytes pc = .ok (.if_icmp .ne o, 3)) (hp : ((pc : Int) + o).toNat = pc') (ho : 0 ≤ (pc : Int) + o) (hp' : pc + 3 = pc'') (K : x ≠ y → Go Γ n0 Q T (mkF Γ.m pc' Ls st)) (K' : x = y → Go Γ n0 Q T (mkF Γ.m pc'' Ls st)) : Go Γ n0 Q T (mkF Γ.m pc Ls (.int y :: .int x :: st)) := by
  subst hp'
  obtain ⟨hx, hZ0, hown0, hby, hml, hret, hnm, hlk, hR, hsH, hzz, hel, hew⟩ := G
  subst hzz hel
  obtain ⟨aw, hew⟩ := hew
  obtain ⟨L, vm0, k0, X, e, N, hS, hk, HD⟩ := X
  have hZ : Γ.Z.Warmed39 (Γ.s.setVm vm0).vm := State.Warmed39.trans hZ0 hS.1
  have hown : (Γ.s.setVm vm0).vm.findClass own = some Γ.m.cls := by rw [show (Γ.s.setVm vm0).vm = vm0 from rfl, hS.1.alike.findClass]; exact hown0
  cases q : if_icmp.holds .ne x y
  · exact Go.of (fun t k => XS.icmpNo X.here hx rfl (hb hby hd) rfl q k) (K' ((hold_ne x y).2 q))
  · exact Go.of (fun t k => XS.icmpYes X.here hx rfl (pc0 := pc) rfl (hb hby hd) rfl q ho hp k) (K ((hold_ne x y).1 q))
theorem k_if_ne {o : Int} {x : Int32} {pc'' : Nat} (G : Ctx Γ Z EL own bytes maxl ret nm rm hs0) (X : W Γ n0 T h C S sf) (hd : decode bytes pc = .ok (.ifCond .ne o, 3)) (hp : ((pc : Int) + o).toNat = pc') (ho : 0 ≤ (pc : Int) + o) (hp' : pc + 3 = pc'') (K : x ≠ 0 → Go Γ n0 Q T (mkF Γ.m pc' Ls st)) (K' : x = 0 → Go Γ n0 Q T (mkF Γ.m pc'' Ls st)) : Go Γ n0 Q T (mkF Γ.m pc Ls (.int x :: st)) := by
  subst hp'
  obtain ⟨hx, hZ0, hown0, hby, hml, hret, hnm, hlk, hR, hsH, hzz, hel, hew⟩ := G
  subst hzz hel
  obtain ⟨aw, hew⟩ := hew
  obtain ⟨L, vm0, k0, X, e, N, hS, hk, HD⟩ := X
  have hZ : Γ.Z.Warmed39 (Γ.s.setVm vm0).vm := State.Warmed39.trans hZ0 hS.1
  have hown : (Γ.s.setVm vm0).vm.findClass own = some Γ.m.cls := by rw [show (Γ.s.setVm vm0).vm = vm0 from rfl, hS.1.alike.findClass]; exact hown0
  cases q : ifCond.holds .ne x
  · exact Go.of (fun t k => XS.ifNo X.here hx rfl (hb hby hd) rfl q k) (K' ((hold0_ne x).2 q))
  · exact Go.of (fun t k => XS.ifYes X.here hx rfl (pc0 := pc) rfl (hb hby hd) rfl q ho hp k) (K ((hold0_ne x).1 q))
theorem hold_lt (x y : Int32) : (if_icmp.holds .lt x y = true → x.toInt < y.toInt) ∧ (if_icmp.holds .lt x y = false → y.toInt ≤ x.toInt) := by
  constructor <;> intro q <;> simp only [if_icmp.holds] at q <;> simp [Int32.lt_iff_toInt_lt, Int32.le_iff_toInt_le] at q ⊢ <;> first | exact q | omega
theorem hold0_lt (x : Int32) : (ifCond.holds .lt x = true → x.toInt < 0) ∧ (ifCond.holds .lt x = false → 0 ≤ x.toInt) := by
  have z := z32
  constructor <;> intro q <;> simp only [ifCond.holds] at q <;> simp [Int32.lt_iff_toInt_lt, Int32.le_iff_toInt_le] at q ⊢ <;> first | exact q | omega
theorem k_icmp_lt {o : Int} {x y : Int32} {pc'' : Nat} (G : Ctx Γ Z EL own bytes maxl ret nm rm hs0) (X : W Γ n0 T h C S sf) (hd : decode bytes pc = .ok (.if_icmp .lt o, 3)) (hp : ((pc : Int) + o).toNat = pc') (ho : 0 ≤ (pc : Int) + o) (hp' : pc + 3 = pc'') (K : x.toInt < y.toInt → Go Γ n0 Q T (mkF Γ.m pc' Ls st)) (K' : y.toInt ≤ x.toInt → Go Γ n0 Q T (mkF Γ.m pc'' Ls st)) : Go Γ n0 Q T (mkF Γ.m pc Ls (.int y :: .int x :: st)) := by
  subst hp'
  obtain ⟨hx, hZ0, hown0, hby, hml, hret, hnm, hlk, hR, hsH, hzz, hel, hew⟩ := G
  subst hzz hel
  obtain ⟨aw, hew⟩ := hew
  obtain ⟨L, vm0, k0, X, e, N, hS, hk, HD⟩ := X
  have hZ : Γ.Z.Warmed39 (Γ.s.setVm vm0).vm := State.Warmed39.trans hZ0 hS.1
  have hown : (Γ.s.setVm vm0).vm.findClass own = some Γ.m.cls := by rw [show (Γ.s.setVm vm0).vm = vm0 from rfl, hS.1.alike.findClass]; exact hown0
  cases q : if_icmp.holds .lt x y
  · exact Go.of (fun t k => XS.icmpNo X.here hx rfl (hb hby hd) rfl q k) (K' ((hold_lt x y).2 q))
  · exact Go.of (fun t k => XS.icmpYes X.here hx rfl (pc0 := pc) rfl (hb hby hd) rfl q ho hp k) (K ((hold_lt x y).1 q))
theorem k_if_lt {o : Int} {x : Int32} {pc'' : Nat} (G : Ctx Γ Z EL own bytes maxl ret nm rm hs0) (X : W Γ n0 T h C S sf) (hd : decode bytes pc = .ok (.ifCond .lt o, 3)) (hp : ((pc : Int) + o).toNat = pc') (ho : 0 ≤ (pc : Int) + o) (hp' : pc + 3 = pc'') (K : x.toInt < 0 → Go Γ n0 Q T (mkF Γ.m pc' Ls st)) (K' : 0 ≤ x.toInt → Go Γ n0 Q T (mkF Γ.m pc'' Ls st)) : Go Γ n0 Q T (mkF Γ.m pc Ls (.int x :: st)) := by
  subst hp'
  obtain ⟨hx, hZ0, hown0, hby, hml, hret, hnm, hlk, hR, hsH, hzz, hel, hew⟩ := G
  subst hzz hel
  obtain ⟨aw, hew⟩ := hew
  obtain ⟨L, vm0, k0, X, e, N, hS, hk, HD⟩ := X
  have hZ : Γ.Z.Warmed39 (Γ.s.setVm vm0).vm := State.Warmed39.trans hZ0 hS.1
  have hown : (Γ.s.setVm vm0).vm.findClass own = some Γ.m.cls := by rw [show (Γ.s.setVm vm0).vm = vm0 from rfl, hS.1.alike.findClass]; exact hown0
  cases q : ifCond.holds .lt x
  · exact Go.of (fun t k => XS.ifNo X.here hx rfl (hb hby hd) rfl q k) (K' ((hold0_lt x).2 q))
  · exact Go.of (fun t k => XS.ifYes X.here hx rfl (pc0 := pc) rfl (hb hby hd) rfl q ho hp k) (K ((hold0_lt x).1 q))
theorem hold_ge (x y : Int32) : (if_icmp.holds .ge x y = true → y.toInt ≤ x.toInt) ∧ (if_icmp.holds .ge x y = false → x.toInt < y.toInt) := by
  constructor <;> intro q <;> simp only [if_icmp.holds] at q <;> simp [Int32.lt_iff_toInt_lt, Int32.le_iff_toInt_le] at q ⊢ <;> first | exact q | omega
theorem hold0_ge (x : Int32) : (ifCond.holds .ge x = true → 0 ≤ x.toInt) ∧ (ifCond.holds .ge x = false → x.toInt < 0) := by
  have z := z32
  constructor <;> intro q <;> simp only [ifCond.holds] at q <;> simp [Int32.lt_iff_toInt_lt, Int32.le_iff_toInt_le] at q ⊢ <;> first | exact q | omega
theorem k_icmp_ge {o : Int} {x y : Int32} {pc'' : Nat} (G : Ctx Γ Z EL own bytes maxl ret nm rm hs0) (X : W Γ n0 T h C S sf) (hd : decode bytes pc = .ok (.if_icmp .ge o, 3)) (hp : ((pc : Int) + o).toNat = pc') (ho : 0 ≤ (pc : Int) + o) (hp' : pc + 3 = pc'') (K : y.toInt ≤ x.toInt → Go Γ n0 Q T (mkF Γ.m pc' Ls st)) (K' : x.toInt < y.toInt → Go Γ n0 Q T (mkF Γ.m pc'' Ls st)) : Go Γ n0 Q T (mkF Γ.m pc Ls (.int y :: .int x :: st)) := by
  subst hp'
  obtain ⟨hx, hZ0, hown0, hby, hml, hret, hnm, hlk, hR, hsH, hzz, hel, hew⟩ := G
  subst hzz hel
  obtain ⟨aw, hew⟩ := hew
  obtain ⟨L, vm0, k0, X, e, N, hS, hk, HD⟩ := X
  have hZ : Γ.Z.Warmed39 (Γ.s.setVm vm0).vm := State.Warmed39.trans hZ0 hS.1
  have hown : (Γ.s.setVm vm0).vm.findClass own = some Γ.m.cls := by rw [show (Γ.s.setVm vm0).vm = vm0 from rfl, hS.1.alike.findClass]; exact hown0
  cases q : if_icmp.holds .ge x y
  · exact Go.of (fun t k => XS.icmpNo X.here hx rfl (hb hby hd) rfl q k) (K' ((hold_ge x y).2 q))
  · exact Go.of (fun t k => XS.icmpYes X.here hx rfl (pc0 := pc) rfl (hb hby hd) rfl q ho hp k) (K ((hold_ge x y).1 q))
theorem k_if_ge {o : Int} {x : Int32} {pc'' : Nat} (G : Ctx Γ Z EL own bytes maxl ret nm rm hs0) (X : W Γ n0 T h C S sf) (hd : decode bytes pc = .ok (.ifCond .ge o, 3)) (hp : ((pc : Int) + o).toNat = pc') (ho : 0 ≤ (pc : Int) + o) (hp' : pc + 3 = pc'') (K : 0 ≤ x.toInt → Go Γ n0 Q T (mkF Γ.m pc' Ls st)) (K' : x.toInt < 0 → Go Γ n0 Q T (mkF Γ.m pc'' Ls st)) : Go Γ n0 Q T (mkF Γ.m pc Ls (.int x :: st)) := by
  subst hp'
  obtain ⟨hx, hZ0, hown0, hby, hml, hret, hnm, hlk, hR, hsH, hzz, hel, hew⟩ := G
  subst hzz hel
  obtain ⟨aw, hew⟩ := hew
  obtain ⟨L, vm0, k0, X, e, N, hS, hk, HD⟩ := X
  have hZ : Γ.Z.Warmed39 (Γ.s.setVm vm0).vm := State.Warmed39.trans hZ0 hS.1
  have hown : (Γ.s.setVm vm0).vm.findClass own = some Γ.m.cls := by rw [show (Γ.s.setVm vm0).vm = vm0 from rfl, hS.1.alike.findClass]; exact hown0
  cases q : ifCond.holds .ge x
  · exact Go.of (fun t k => XS.ifNo X.here hx rfl (hb hby hd) rfl q k) (K' ((hold0_ge x).2 q))
  · exact Go.of (fun t k => XS.ifYes X.here hx rfl (pc0 := pc) rfl (hb hby hd) rfl q ho hp k) (K ((hold0_ge x).1 q))
theorem hold_gt (x y : Int32) : (if_icmp.holds .gt x y = true → y.toInt < x.toInt) ∧ (if_icmp.holds .gt x y = false → x.toInt ≤ y.toInt) := by
  constructor <;> intro q <;> simp only [if_icmp.holds] at q <;> simp [Int32.lt_iff_toInt_lt, Int32.le_iff_toInt_le] at q ⊢ <;> first | exact q | omega
theorem hold0_gt (x : Int32) : (ifCond.holds .gt x = true → 0 < x.toInt) ∧ (ifCond.holds .gt x = false → x.toInt ≤ 0) := by
  have z := z32
  constructor <;> intro q <;> simp only [ifCond.holds] at q <;> simp [Int32.lt_iff_toInt_lt, Int32.le_iff_toInt_le] at q ⊢ <;> first | exact q | omega
theorem k_icmp_gt {o : Int} {x y : Int32} {pc'' : Nat} (G : Ctx Γ Z EL own bytes maxl ret nm rm hs0) (X : W Γ n0 T h C S sf) (hd : decode bytes pc = .ok (.if_icmp .gt o, 3)) (hp : ((pc : Int) + o).toNat = pc') (ho : 0 ≤ (pc : Int) + o) (hp' : pc + 3 = pc'') (K : y.toInt < x.toInt → Go Γ n0 Q T (mkF Γ.m pc' Ls st)) (K' : x.toInt ≤ y.toInt → Go Γ n0 Q T (mkF Γ.m pc'' Ls st)) : Go Γ n0 Q T (mkF Γ.m pc Ls (.int y :: .int x :: st)) := by
  subst hp'
  obtain ⟨hx, hZ0, hown0, hby, hml, hret, hnm, hlk, hR, hsH, hzz, hel, hew⟩ := G
  subst hzz hel
  obtain ⟨aw, hew⟩ := hew
  obtain ⟨L, vm0, k0, X, e, N, hS, hk, HD⟩ := X
  have hZ : Γ.Z.Warmed39 (Γ.s.setVm vm0).vm := State.Warmed39.trans hZ0 hS.1
  have hown : (Γ.s.setVm vm0).vm.findClass own = some Γ.m.cls := by rw [show (Γ.s.setVm vm0).vm = vm0 from rfl, hS.1.alike.findClass]; exact hown0
  cases q : if_icmp.holds .gt x y
  · exact Go.of (fun t k => XS.icmpNo X.here hx rfl (hb hby hd) rfl q k) (K' ((hold_gt x y).2 q))
  · exact Go.of (fun t k => XS.icmpYes X.here hx rfl (pc0 := pc) rfl (hb hby hd) rfl q ho hp k) (K ((hold_gt x y).1 q))
theorem k_if_gt {o : Int} {x : Int32} {pc'' : Nat} (G : Ctx Γ Z EL own bytes maxl ret nm rm hs0) (X : W Γ n0 T h C S sf) (hd : decode bytes pc = .ok (.ifCond .gt o, 3)) (hp : ((pc : Int) + o).toNat = pc') (ho : 0 ≤ (pc : Int) + o) (hp' : pc + 3 = pc'') (K : 0 < x.toInt → Go Γ n0 Q T (mkF Γ.m pc' Ls st)) (K' : x.toInt ≤ 0 → Go Γ n0 Q T (mkF Γ.m pc'' Ls st)) : Go Γ n0 Q T (mkF Γ.m pc Ls (.int x :: st)) := by
  subst hp'
  obtain ⟨hx, hZ0, hown0, hby, hml, hret, hnm, hlk, hR, hsH, hzz, hel, hew⟩ := G
  subst hzz hel
  obtain ⟨aw, hew⟩ := hew
  obtain ⟨L, vm0, k0, X, e, N, hS, hk, HD⟩ := X
  have hZ : Γ.Z.Warmed39 (Γ.s.setVm vm0).vm := State.Warmed39.trans hZ0 hS.1
  have hown : (Γ.s.setVm vm0).vm.findClass own = some Γ.m.cls := by rw [show (Γ.s.setVm vm0).vm = vm0 from rfl, hS.1.alike.findClass]; exact hown0
  cases q : ifCond.holds .gt x
  · exact Go.of (fun t k => XS.ifNo X.here hx rfl (hb hby hd) rfl q k) (K' ((hold0_gt x).2 q))
  · exact Go.of (fun t k => XS.ifYes X.here hx rfl (pc0 := pc) rfl (hb hby hd) rfl q ho hp k) (K ((hold0_gt x).1 q))
theorem hold_le (x y : Int32) : (if_icmp.holds .le x y = true → x.toInt ≤ y.toInt) ∧ (if_icmp.holds .le x y = false → y.toInt < x.toInt) := by
  constructor <;> intro q <;> simp only [if_icmp.holds] at q <;> simp [Int32.lt_iff_toInt_lt, Int32.le_iff_toInt_le] at q ⊢ <;> first | exact q | omega
theorem hold0_le (x : Int32) : (ifCond.holds .le x = true → x.toInt ≤ 0) ∧ (ifCond.holds .le x = false → 0 < x.toInt) := by
  have z := z32
  constructor <;> intro q <;> simp only [ifCond.holds] at q <;> simp [Int32.lt_iff_toInt_lt, Int32.le_iff_toInt_le] at q ⊢ <;> first | exact q | omega
theorem k_icmp_le {o : Int} {x y : Int32} {pc'' : Nat} (G : Ctx Γ Z EL own bytes maxl ret nm rm hs0) (X : W Γ n0 T h C S sf) (hd : decode bytes pc = .ok (.if_icmp .le o, 3)) (hp : ((pc : Int) + o).toNat = pc') (ho : 0 ≤ (pc : Int) + o) (hp' : pc + 3 = pc'') (K : x.toInt ≤ y.toInt → Go Γ n0 Q T (mkF Γ.m pc' Ls st)) (K' : y.toInt < x.toInt → Go Γ n0 Q T (mkF Γ.m pc'' Ls st)) : Go Γ n0 Q T (mkF Γ.m pc Ls (.int y :: .int x :: st)) := by
  subst hp'
  obtain ⟨hx, hZ0, hown0, hby, hml, hret, hnm, hlk, hR, hsH, hzz, hel, hew⟩ := G
  subst hzz hel
  obtain ⟨aw, hew⟩ := hew
  obtain ⟨L, vm0, k0, X, e, N, hS, hk, HD⟩ := X
  have hZ : Γ.Z.Warmed39 (Γ.s.setVm vm0).vm := State.Warmed39.trans hZ0 hS.1
  have hown : (Γ.s.setVm vm0).vm.findClass own = some Γ.m.cls := by rw [show (Γ.s.setVm vm0).vm = vm0 from rfl, hS.1.alike.findClass]; exact hown0
  cases q : if_icmp.holds .le x y
  · exact Go.of (fun t k => XS.icmpNo X.here hx rfl (hb hby hd) rfl q k) (K' ((hold_le x y).2 q))
  · exact Go.of (fun t k => XS.icmpYes X.here hx rfl (pc0 := pc) rfl (hb hby hd) rfl q ho hp k) (K ((hold_le x y).1 q))
theorem k_if_le {o : Int} {x : Int32} {pc'' : Nat} (G : Ctx Γ Z EL own bytes maxl ret nm rm hs0) (X : W Γ n0 T h C S sf) (hd : decode bytes pc = .ok (.ifCond .le o, 3)) (hp : ((pc : Int) + o).toNat = pc') (ho : 0 ≤ (pc : Int) + o) (hp' : pc + 3 = pc'') (K : x.toInt ≤ 0 → Go Γ n0 Q T (mkF Γ.m pc' Ls st)) (K' : 0 < x.toInt → Go Γ n0 Q T (mkF Γ.m pc'' Ls st)) : Go Γ n0 Q T (mkF Γ.m pc Ls (.int x :: st)) := by
  subst hp'
  obtain ⟨hx, hZ0, hown0, hby, hml, hret, hnm, hlk, hR, hsH, hzz, hel, hew⟩ := G
  subst hzz hel
  obtain ⟨aw, hew⟩ := hew
  obtain ⟨L, vm0, k0, X, e, N, hS, hk, HD⟩ := X
  have hZ : Γ.Z.Warmed39 (Γ.s.setVm vm0).vm := State.Warmed39.trans hZ0 hS.1
  have hown : (Γ.s.setVm vm0).vm.findClass own = some Γ.m.cls := by rw [show (Γ.s.setVm vm0).vm = vm0 from rfl, hS.1.alike.findClass]; exact hown0
  cases q : ifCond.holds .le x
  · exact Go.of (fun t k => XS.ifNo X.here hx rfl (hb hby hd) rfl q k) (K' ((hold0_le x).2 q))
  · exact Go.of (fun t k => XS.ifYes X.here hx rfl (pc0 := pc) rfl (hb hby hd) rfl q ho hp k) (K ((hold0_le x).1 q))
theorem k_acmp_ne {o : Int} {x y : Value} {pc'' : Nat} (G : Ctx Γ Z EL own bytes maxl ret nm rm hs0) (X : W Γ n0 T h C S sf) (hd : decode bytes pc = .ok (.if_acmp .ne o, 3)) (hp : ((pc : Int) + o).toNat = pc') (ho : 0 ≤ (pc : Int) + o) (hp' : pc + 3 = pc'') (h1 : x.isRef = true) (h2 : y.isRef = true) (K : x ≠ y → Go Γ n0 Q T (mkF Γ.m pc' Ls st)) (K' : x = y → Go Γ n0 Q T (mkF Γ.m pc'' Ls st)) : Go Γ n0 Q T (mkF Γ.m pc Ls (y :: x :: st)) := by
  subst hp hp'
  obtain ⟨hx, hZ0, hown0, hby, hml, hret, hnm, hlk, hR, hsH, hzz, hel, hew⟩ := G
  subst hzz hel
  obtain ⟨aw, hew⟩ := hew
  obtain ⟨L, vm0, k0, X, e, N, hS, hk, HD⟩ := X
  have hZ : Γ.Z.Warmed39 (Γ.s.setVm vm0).vm := State.Warmed39.trans hZ0 hS.1
  have hown : (Γ.s.setVm vm0).vm.findClass own = some Γ.m.cls := by rw [show (Γ.s.setVm vm0).vm = vm0 from rfl, hS.1.alike.findClass]; exact hown0
  by_cases q : x = y
  · exact Go.of (fun t k => acmp (g := mkF Γ.m pc Ls (y :: x :: st)) X hx rfl h1 h2 (pc0 := pc) (same := true) rfl (hb hby hd) rfl (decide_eq_true q) ho rfl k) (K' q)
  · exact Go.of (fun t k => acmp (g := mkF Γ.m pc Ls (y :: x :: st)) X hx rfl h1 h2 (pc0 := pc) (same := false) rfl (hb hby hd) rfl (decide_eq_false q) ho rfl k) (K q)
theorem k_ifnonnull {o : Int} {x : Value} {pc'' : Nat} (G : Ctx Γ Z EL own bytes maxl ret nm rm hs0) (X : W Γ n0 T h C S sf) (hd : decode bytes pc = .ok (.ifnonnull o, 3)) (hp : ((pc : Int) + o).toNat = pc') (ho : 0 ≤ (pc : Int) + o) (hp' : pc + 3 = pc'') (h1 : x.isRef = true) (K : ∀ a, x = .ref a → Go Γ n0 Q T (mkF Γ.m pc' Ls st)) (K' : x = .null → Go Γ n0 Q T (mkF Γ.m pc'' Ls st)) : Go Γ n0 Q T (mkF Γ.m pc Ls (x :: st)) := by
  subst hp'
  obtain ⟨hx, hZ0, hown0, hby, hml, hret, hnm, hlk, hR, hsH, hzz, hel, hew⟩ := G
  subst hzz hel
  obtain ⟨aw, hew⟩ := hew
  obtain ⟨L, vm0, k0, X, e, N, hS, hk, HD⟩ := X
  have hZ : Γ.Z.Warmed39 (Γ.s.setVm vm0).vm := State.Warmed39.trans hZ0 hS.1
  have hown : (Γ.s.setVm vm0).vm.findClass own = some Γ.m.cls := by rw [show (Γ.s.setVm vm0).vm = vm0 from rfl, hS.1.alike.findClass]; exact hown0
  rcases ref_cases h1 with rfl | ⟨a, rfl⟩
  · exact Go.of (fun t k => XS.ifnonnullNo X.here hx rfl (hb hby hd) rfl k) (K' rfl)
  · exact Go.of (fun t k => XS.ifnonnullYes X.here hx rfl (pc0 := pc) rfl (hb hby hd) rfl ho hp k) (K a rfl)
theorem k_ldcI {a0 : Array Value} {idx : Nat} {v : Int32} (G : Ctx Γ Z EL own bytes maxl ret nm rm hs0) (X : W Γ n0 T h C S sf) (w : (Cond.constant own idx v).before a0 Z = true) (hd : decode bytes pc = .ok (.ldc idx, 2)) (hp : pc + 2 = pc') (K : Go Γ n0 Q T (mkF Γ.m pc' Ls (.int v :: st))) : Go Γ n0 Q T (mkF Γ.m pc Ls st) := by
  subst hp
  obtain ⟨hx, hZ0, hown0, hby, hml, hret, hnm, hlk, hR, hsH, hzz, hel, hew⟩ := G
  subst hzz hel
  obtain ⟨aw, hew⟩ := hew
  obtain ⟨L, vm0, k0, X, e, N, hS, hk, HD⟩ := X
  have hZ : Γ.Z.Warmed39 (Γ.s.setVm vm0).vm := State.Warmed39.trans hZ0 hS.1
  have hown : (Γ.s.setVm vm0).vm.findClass own = some Γ.m.cls := by rw [show (Γ.s.setVm vm0).vm = vm0 from rfl, hS.1.alike.findClass]; exact hown0
  exact Go.of (fun t k => X.ldcInt hx hown (mvT hZ w) (g := mkF Γ.m pc Ls st) rfl (hb hby hd) t k) K
theorem k_ldcL {a0 : Array Value} {idx : Nat} {v : Int64} (G : Ctx Γ Z EL own bytes maxl ret nm rm hs0) (X : W Γ n0 T h C S sf) (w : (Cond.constantLong own idx v).before a0 Z = true) (hd : decode bytes pc = .ok (.ldc2_w idx, 3)) (hp : pc + 3 = pc') (K : Go Γ n0 Q T (mkF Γ.m pc' Ls (.long v :: st))) : Go Γ n0 Q T (mkF Γ.m pc Ls st) := by
  subst hp
  obtain ⟨hx, hZ0, hown0, hby, hml, hret, hnm, hlk, hR, hsH, hzz, hel, hew⟩ := G
  subst hzz hel
  obtain ⟨aw, hew⟩ := hew
  obtain ⟨L, vm0, k0, X, e, N, hS, hk, HD⟩ := X
  have hZ : Γ.Z.Warmed39 (Γ.s.setVm vm0).vm := State.Warmed39.trans hZ0 hS.1
  have hown : (Γ.s.setVm vm0).vm.findClass own = some Γ.m.cls := by rw [show (Γ.s.setVm vm0).vm = vm0 from rfl, hS.1.alike.findClass]; exact hown0
  exact Go.of (fun t k => X.ldc2Long hx hown (mvT hZ w) (g := mkF Γ.m pc Ls st) rfl (hb hby hd) t k) K
theorem k_getS {a0 : Array Value} {idx : Nat} {R0 O n d host : String} {v : Value} (G : Ctx Γ Z EL own bytes maxl ret nm rm hs0) (X : W Γ n0 T h C S sf) (w : (Cond.fieldLink own idx R0 n d).before a0 Z = true ∨ (Cond.fieldLinkNest own idx R0 n d host).before a0 Z = true) (via : Via Z R0 O n d) (F : Sta Z h O n d v) (hd : decode bytes pc = .ok (.getstatic idx, 3)) (hp : pc + 3 = pc') (K : ∀ T, W Γ n0 T h C S sf → Go Γ n0 Q T (mkF Γ.m pc' Ls (v :: st))) : Go Γ n0 Q T (mkF Γ.m pc Ls st) := by
  subst hp
  obtain ⟨hx, hZ0, hown0, hby, hml, hret, hnm, hlk, hR, hsH, hzz, hel, hew⟩ := G
  subst hzz hel
  obtain ⟨aw, hew⟩ := hew
  obtain ⟨L, vm0, k0, X, e, N, hS, hk, HD⟩ := X
  have hZ : Γ.Z.Warmed39 (Γ.s.setVm vm0).vm := State.Warmed39.trans hZ0 hS.1
  have hown : (Γ.s.setVm vm0).vm.findClass own = some Γ.m.cls := by rw [show (Γ.s.setVm vm0).vm = vm0 from rfl, hS.1.alike.findClass]; exact hown0
  obtain ⟨T', X', e', st'⟩ := getS2 X hx hZ hown w via e F (g := mkF Γ.m pc Ls st) rfl (hb hby hd)
  exact Go.of st' (K T' ⟨L, vm0, k0, X', e', N, hS, hk, HD⟩)
theorem k_getF {a0 : Array Value} {idx : Nat} {R0 O n d host : String} {v : Value} {a : Addr} (G : Ctx Γ Z EL own bytes maxl ret nm rm hs0) (X : W Γ n0 T h C S sf) (w : (Cond.fieldLink own idx R0 n d).before a0 Z = true ∨ (Cond.fieldLinkNest own idx R0 n d host).before a0 Z = true) (via : Via Z R0 O n d) (F : Fld Z h a O n d v) (hd : decode bytes pc = .ok (.getfield idx, 3)) (hp : pc + 3 = pc') (K : ∀ T, W Γ n0 T h C S sf → Go Γ n0 Q T (mkF Γ.m pc' Ls (v :: st))) : Go Γ n0 Q T (mkF Γ.m pc Ls (.ref a :: st)) := by
  subst hp
  obtain ⟨hx, hZ0, hown0, hby, hml, hret, hnm, hlk, hR, hsH, hzz, hel, hew⟩ := G
  subst hzz hel
  obtain ⟨aw, hew⟩ := hew
  obtain ⟨L, vm0, k0, X, e, N, hS, hk, HD⟩ := X
  have hZ : Γ.Z.Warmed39 (Γ.s.setVm vm0).vm := State.Warmed39.trans hZ0 hS.1
  have hown : (Γ.s.setVm vm0).vm.findClass own = some Γ.m.cls := by rw [show (Γ.s.setVm vm0).vm = vm0 from rfl, hS.1.alike.findClass]; exact hown0
  obtain ⟨T', X', e', st'⟩ := getF X hx hZ hown w via e F (g := mkF Γ.m pc Ls (.ref a :: st)) rfl rfl (hb hby hd)
  exact Go.of st' (K T' ⟨L, vm0, k0, X', e', N, hS, hk, HD⟩)
theorem k_putF {a0 : Array Value} {idx kk : Nat} {R0 O n d host CC : String} {v old : Value} {ty : FieldType} {a : Addr} (G : Ctx Γ Z EL own bytes maxl ret nm rm hs0) (X : W Γ n0 T h C S sf) (w : (Cond.fieldLink own idx R0 n d).before a0 Z = true ∨ (Cond.fieldLinkNest own idx R0 n d host).before a0 Z = true) (via : Via Z R0 O n d) (F : Fld Z h a O n d old) (E : Exa Z h a CC) (lay : (Cond.lays CC O n d).before a0 Z = true ∨ ((Cond.laysFinal CC O n d).before a0 Z = true ∧ own = O ∧ nm = "<init>")) (wi : (Cond.instantiable CC kk).before a0 Z = true) (ht : parseFieldDescriptor d = some ty) (hn : narrow ty v = v) (hf : fits ty v = true) (ga : n0 ≤ a) (ms : a ∈ sf) (hd : decode bytes pc = .ok (.putfield idx, 3)) (hp : pc + 3 = pc') (K : ∀ T h', Wr h h' a (Jvm.RoadKit.slotOf Z O n d) v → W Γ n0 T h' C S sf → Go Γ n0 Q T (mkF Γ.m pc' Ls st)) : Go Γ n0 Q T (mkF Γ.m pc Ls (v :: .ref a :: st)) := by
  subst hp
  obtain ⟨hx, hZ0, hown0, hby, hml, hret, hnm, hlk, hR, hsH, hzz, hel, hew⟩ := G
  subst hzz hel
  obtain ⟨aw, hew⟩ := hew
  obtain ⟨L, vm0, k0, X, e, N, hS, hk, HD⟩ := X
  have hZ : Γ.Z.Warmed39 (Γ.s.setVm vm0).vm := State.Warmed39.trans hZ0 hS.1
  have hown : (Γ.s.setVm vm0).vm.findClass own = some Γ.m.cls := by rw [show (Γ.s.setVm vm0).vm = vm0 from rfl, hS.1.alike.findClass]; exact hown0
  obtain ⟨T', h', X', e', W', st'⟩ := putF X hx hZ hown w via e F E (by rw [hnm]; exact lay) wi ht hn hf (g := mkF Γ.m pc Ls (v :: .ref a :: st)) rfl rfl (hb hby hd)
  exact Go.of st' (K T' h' W' ⟨_, vm0, k0, X', e', Fr.snoc X' N ga, hS, (by rw [W'.size]; exact hk), HD.wr W' ms⟩)
theorem k_putFN {a0 : Array Value} {idx kk : Nat} {R0 O n d CC : String} {v v' old : Value} {ty : FieldType} {a : Addr} (G : Ctx Γ Z EL own bytes maxl ret nm rm hs0) (X : W Γ n0 T h C S sf) (w : (Cond.fieldLink own idx R0 n d).before a0 Z = true) (via : Via Z R0 O n d) (F : Fld Z h a O n d old) (E : Exa Z h a CC) (lay : (Cond.lays CC O n d).before a0 Z = true ∨ ((Cond.laysFinal CC O n d).before a0 Z = true ∧ own = O ∧ nm = "<init>")) (wi : (Cond.instantiable CC kk).before a0 Z = true) (ht : parseFieldDescriptor d = some ty) (hn : narrow ty v = v') (hf : fits ty v' = true) (ga : n0 ≤ a) (ms : a ∈ sf) (hd : decode bytes pc = .ok (.putfield idx, 3)) (hp : pc + 3 = pc') (K : ∀ T h', Wr h h' a (Jvm.RoadKit.slotOf Z O n d) v' → W Γ n0 T h' C S sf → Go Γ n0 Q T (mkF Γ.m pc' Ls st)) : Go Γ n0 Q T (mkF Γ.m pc Ls (v :: .ref a :: st)) := by
  subst hp
  obtain ⟨hx, hZ0, hown0, hby, hml, hret, hnm, hlk, hR, hsH, hzz, hel, hew⟩ := G
  subst hzz hel
  obtain ⟨aw, hew⟩ := hew
  obtain ⟨L, vm0, k0, X, e, N, hS, hk, HD⟩ := X
  have hZ : Γ.Z.Warmed39 (Γ.s.setVm vm0).vm := State.Warmed39.trans hZ0 hS.1
  have hown : (Γ.s.setVm vm0).vm.findClass own = some Γ.m.cls := by rw [show (Γ.s.setVm vm0).vm = vm0 from rfl, hS.1.alike.findClass]; exact hown0
  obtain ⟨T', h', X', e', W', st'⟩ := putFN X hx hZ hown w via e F E (by rw [hnm]; exact lay) wi ht hn hf (g := mkF Γ.m pc Ls (v :: .ref a :: st)) rfl rfl (hb hby hd)
  exact Go.of st' (K T' h' W' ⟨_, vm0, k0, X', e', Fr.snoc X' N ga, hS, (by rw [W'.size]; exact hk), HD.wr W' ms⟩)
theorem k_new {a0 : Array Value} {idx k : Nat} {CC : String} (G : Ctx Γ Z EL own bytes maxl ret nm rm hs0) (X : W Γ n0 T h C S sf) (w : (Cond.classLink own idx CC).before a0 Z = true) (wi : (Cond.instantiable CC k).before a0 Z = true) (wz : (Cond.initialized CC).before a0 Z = true) (hd : decode bytes pc = .ok (.new idx, 3)) (hp : pc + 3 = pc') (hc : C + 1 ≤ rm.cells) (hs : S + k ≤ rm.slots)
    (K : ∀ T h' a, h.size = a → Ext h h' → Exa Z h' a CC → (∀ {O nm d : String} {ty : FieldType}, Laid Z a0 CC O nm d → parseFieldDescriptor d = some ty → Fld Z h' a O nm d (defaultValue ty)) → W Γ n0 T h' (C + 1) (S + k) (a :: sf) → Go Γ n0 Q T (mkF Γ.m pc' Ls (.ref a :: st))) : Go Γ n0 Q T (mkF Γ.m pc Ls st) := by
  subst hp
  obtain ⟨hx, hZ0, hown0, hby, hml, hret, hnm, hlk, hR, hsH, hzz, hel, hew⟩ := G
  subst hzz hel
  obtain ⟨aw, hew⟩ := hew
  obtain ⟨L, vm0, k0, X, e, N, hS, hk, HD⟩ := X
  have hZ : Γ.Z.Warmed39 (Γ.s.setVm vm0).vm := State.Warmed39.trans hZ0 hS.1
  have hown : (Γ.s.setVm vm0).vm.findClass own = some Γ.m.cls := by rw [show (Γ.s.setVm vm0).vm = vm0 from rfl, hS.1.alike.findClass]; exact hown0
  obtain ⟨T', h', X', e', E', A', D', -, st'⟩ := newO X hx hZ hown w wi wz e (g := mkF Γ.m pc Ls st) rfl (hb hby hd) (hR ▸ hc) (hR ▸ hs)
  exact Go.of st' (K T' h' _ rfl E' A' D' ⟨L, vm0, k0, X', e', N, hS, (Nat.le_trans hk E'.1), HD.new E' A'.lt⟩)
theorem k_initO {a0 : Array Value} {idx : Nat} {a : Addr} {wd : Nat} (G : Ctx Γ Z EL own bytes maxl ret nm rm hs0) (X : W Γ n0 T h C S sf) (w1 : (Cond.methodLink own idx Lib.objectInit).before a0 Z = true) (w2 : (Cond.instanceMethod Lib.objectInit).before a0 Z = true) (w3 : (Cond.code Lib.objectInit ⟨#[0xb1]⟩ 1 none).before a0 Z = true) (hd : decode bytes pc = .ok (.invokespecial idx, 3)) (hp : pc + 3 = pc') (hL : Ls.size = maxl) (hf : 1 ≤ rm.frames) (hwd : (st.map fun v => v.category).sum = wd) (hl : wd + 12 ≤ rm.locals) (K : ∀ T, W Γ n0 T h C S sf → Go Γ n0 Q T (mkF Γ.m pc' Ls st)) : Go Γ n0 Q T (mkF Γ.m pc Ls (.ref a :: st)) := by
  subst hp
  obtain ⟨hx, hZ0, hown0, hby, hml, hret, hnm, hlk, hR, hsH, hzz, hel, hew⟩ := G
  subst hzz hel
  obtain ⟨aw, hew⟩ := hew
  obtain ⟨L, vm0, k0, X, e, N, hS, hk, HD⟩ := X
  have hZ : Γ.Z.Warmed39 (Γ.s.setVm vm0).vm := State.Warmed39.trans hZ0 hS.1
  have hown : (Γ.s.setVm vm0).vm.findClass own = some Γ.m.cls := by rw [show (Γ.s.setVm vm0).vm = vm0 from rfl, hS.1.alike.findClass]; exact hown0
  obtain ⟨T', X', e', st'⟩ := initO X hx hZ hown w1 w2 w3 e (g := mkF Γ.m pc Ls (.ref a :: st)) rfl (by rw [hml]; exact hL) rfl (hb hby hd) (hR ▸ hf) (W := wd) (by show 2 * 0 + _ ≤ _; omega) (hR ▸ hl)
  exact Go.of st' (K T' ⟨L, vm0, k0, X', e', N, hS, hk, HD⟩)
theorem k_castY {a0 : Array Value} {idx : Nat} {KK : String} {a : Addr} (G : Ctx Γ Z EL own bytes maxl ret nm rm hs0) (X : W Γ n0 T h C S sf) (w : (Cond.classLink own idx KK).before a0 Z = true) (F : Ins Z h a KK true) (hd : decode bytes pc = .ok (.checkcast idx, 3)) (hp : pc + 3 = pc') (K : ∀ T, W Γ n0 T h C S sf → Go Γ n0 Q T (mkF Γ.m pc' Ls (.ref a :: st))) : Go Γ n0 Q T (mkF Γ.m pc Ls (.ref a :: st)) := by
  subst hp
  obtain ⟨hx, hZ0, hown0, hby, hml, hret, hnm, hlk, hR, hsH, hzz, hel, hew⟩ := G
  subst hzz hel
  obtain ⟨aw, hew⟩ := hew
  obtain ⟨L, vm0, k0, X, e, N, hS, hk, HD⟩ := X
  have hZ : Γ.Z.Warmed39 (Γ.s.setVm vm0).vm := State.Warmed39.trans hZ0 hS.1
  have hown : (Γ.s.setVm vm0).vm.findClass own = some Γ.m.cls := by rw [show (Γ.s.setVm vm0).vm = vm0 from rfl, hS.1.alike.findClass]; exact hown0
  obtain ⟨T', X', e', st'⟩ := castY X hx hZ hown w e F (g := mkF Γ.m pc Ls (.ref a :: st)) rfl rfl (hb hby hd)
  exact Go.of st' (K T' ⟨L, vm0, k0, X', e', N, hS, hk, HD⟩)
theorem k_instY {a0 : Array Value} {idx : Nat} {KK : String} {a : Addr} (G : Ctx Γ Z EL own bytes maxl ret nm rm hs0) (X : W Γ n0 T h C S sf) (w : (Cond.classLink own idx KK).before a0 Z = true) (F : Ins Z h a KK true) (hd : decode bytes pc = .ok (.instanceof idx, 3)) (hp : pc + 3 = pc') (K : ∀ T, W Γ n0 T h C S sf → Go Γ n0 Q T (mkF Γ.m pc' Ls (.int 1 :: st))) : Go Γ n0 Q T (mkF Γ.m pc Ls (.ref a :: st)) := by
  subst hp
  obtain ⟨hx, hZ0, hown0, hby, hml, hret, hnm, hlk, hR, hsH, hzz, hel, hew⟩ := G
  subst hzz hel
  obtain ⟨aw, hew⟩ := hew
  obtain ⟨L, vm0, k0, X, e, N, hS, hk, HD⟩ := X
  have hZ : Γ.Z.Warmed39 (Γ.s.setVm vm0).vm := State.Warmed39.trans hZ0 hS.1
  have hown : (Γ.s.setVm vm0).vm.findClass own = some Γ.m.cls := by rw [show (Γ.s.setVm vm0).vm = vm0 from rfl, hS.1.alike.findClass]; exact hown0
  obtain ⟨T', X', e', st'⟩ := instY X hx hZ hown w e F (g := mkF Γ.m pc Ls (.ref a :: st)) rfl rfl (hb hby hd)
  exact Go.of st' (K T' ⟨L, vm0, k0, X', e', N, hS, hk, HD⟩)
theorem W.drop {sf' : List Addr} (X : W Γ n0 T h C S (sf' ++ sf)) : W Γ n0 T h C S sf := by
  obtain ⟨L, v, k, X, e, N, a, b, H⟩ := X
  exact ⟨L, v, k, X, e, N, a, b, H.1, fun x hx => H.2 x (List.mem_append_right _ hx)⟩
theorem W.sub {sf' : List Addr} (X : W Γ n0 T h C S sf') (q : ∀ x ∈ sf, x ∈ sf') : W Γ n0 T h C S sf := by
  obtain ⟨L, v, k, X, e, N, a, b, H⟩ := X
  exact ⟨L, v, k, X, e, N, a, b, H.1, fun x hx => H.2 x (q x hx)⟩
theorem W.only {sf' : List Addr} {x : Addr} (X : W Γ n0 T h C S (sf' ++ sf)) (q : x ∈ sf') : W Γ n0 T h C S (x :: sf) := X.sub fun y hy => by
  rcases List.mem_cons.mp hy with rfl | hy
  · exact List.mem_append_left _ q
  · exact List.mem_append_right _ hy
theorem W.addE {x : Addr} {CC : String} (G : Ctx Γ Z EL own bytes maxl ret nm rm hs0) (X : W Γ n0 T h C S sf) (E : Exa Z h x CC) (h1 : CC ≠ "java/lang/String") (h2 : CC ≠ "[B") : W Γ n0 T h C S (x :: sf) := by
  obtain ⟨hx, hZ0, hown0, hby, hml, hret, hnm, hlk, hR, hsH, hzz, hel, hew⟩ := G
  subst hzz hel
  obtain ⟨L, v, k, X, e, N, a, b, H⟩ := X
  refine ⟨L, v, k, X, e, N, a, b, H.1, fun y hy => ?_⟩
  rcases List.mem_cons.mp hy with rfl | hy
  · exact ⟨E.lt, Safe.exa (State.Warmed39.trans hZ0 a.1).alike E h1 h2⟩
  · exact H.2 y hy
theorem backHeld {l : Launch} {R : Room} {p : Program} {e : Env} {below : List Frame} {s : State} {args : Array Value} {vm0 : Vm} {a0 a1 : Array Value} {y : MethodName} {maxL len Wd : Nat} {as' : Array Value} (hM : Met Z EL sf y bytes maxL ret rm as' h n0 Q) (hZ : Z.Warmed39 vm0) (wc : (Cond.code y bytes maxL ret).before a0 Z = true) (wz : (Cond.initialized y.cls).before a0 Z = true) (hf : rm.frames + 1 ≤ R.frames) (hl : Wd + (maxL + 11) + rm.locals ≤ R.locals) (hEL : EW Z a1 EL) (H : CHv Z EL vm0 h) (hs : ∀ x ∈ sf, x < h.size ∧ Safe Z EL vm0 h x) :
    BackS l R p e below (s.setVm vm0) args y len Wd (fun A a => a = as' ∧ A.U.heap = h ∧ A.cells + rm.cells ≤ R.cells ∧ A.slots + rm.slots ≤ R.slots)
      (fun A _ v B => ∃ L, ((∃ sf', Q v B.U.heap sf' ∧ ∀ x ∈ sf', x < B.U.heap.size ∧ Safe Z EL B.U.vm B.U.heap x) ∧ Fr n0 L) ∧ B.locs = A.locs ++ L ∧ B.cells = A.cells + rm.cells ∧ B.slots = A.slots + rm.slots ∧ CHr Z EL vm0 h B.U.vm B.U.heap) := by
  refine BackS.of_freeW (bytes := bytes) (maxL := maxL) (ret := ret) (E := fun _ U o U' L k n => k = rm.cells ∧ n = rm.slots ∧ (∃ v, o = .returned v ∧ (∃ sf', Q v U'.heap sf' ∧ ∀ x ∈ sf', x < U'.heap.size ∧ Safe Z EL U'.vm U'.heap x) ∧ Fr n0 L) ∧ CHr Z EL U.vm U.heap U'.vm U'.heap) (hM l) hf hl ?_ ?_ ?_ ?_ ?_
  · intro m meth c A a Y hp
    have hU : Z.Warmed39 A.U.vm := wtrans (s := s.setVm vm0) hZ Y.warmed
    exact ⟨by show (Cond.and _ .tt).before a A.U = true; rw [Cond.before_and, mv hU wc]; rfl, mv hU wc, mv hU wz, hp.2.2.1, hp.2.2.2⟩
  · intro m meth c A a g mk Y hp
    have AT := CHv.at (h := h) Y hZ hEL H
    exact ⟨hp.1, wtrans (s := s.setVm vm0) hZ Y.warmed, hp.2.1, AT.1, fun x hx => ⟨(hs x hx).1, AT.safe (hs x hx).1 (hs x hx).2⟩⟩
  · intros; trivial
  · rintro _ _ _ _ ⟨v, L, h1, h2, h3, h4⟩
    exact ⟨L, _, _, h4, rfl, rfl, ⟨v, h1, h2⟩, h3⟩
  · rintro m meth c A a g mk v t L k n Y hp - - ⟨e1, e2, ⟨v', e3, e4⟩, e5⟩
    cases e3; subst e1 e2
    refine ⟨L, e4, rfl, rfl, rfl, (CHv.at Y hZ hEL H).trans ?_⟩
    rw [← hp.2.1]; exact e5
theorem k_callS {a0 : Array Value} {idx : Nat} {y : MethodName} {by' : ByteArray} {maxL' : Nat} {ret' : Option FieldType} {rm' : Room} {ps : List FieldType} {rt : Option FieldType} {wd : Nat} {QY : Option Value → Heap → List Addr → Prop} {argsL rest : List Value} (G : Ctx Γ Z EL own bytes maxl ret nm rm hs0) (X : W Γ n0 T h C S sf) (hst : st = argsL.reverse ++ rest) (w1 : (Cond.methodLink own idx y).before a0 Z = true) (w2 : (Cond.static y).before a0 Z = true) (wz : (Cond.initialized y.cls).before a0 Z = true) (wc : (Cond.code y by' maxL' ret').before a0 Z = true) (hy : y.cls ≠ "java/lang/invoke/MethodHandle" ∧ y.cls ≠ "java/lang/invoke/VarHandle") (M : Met Z EL sf y by' maxL' ret' rm' argsL.toArray h n0 QY) (hd : decode bytes pc = .ok (.invokestatic idx, 3)) (pd : parseMethodDescriptor y.desc = some ⟨ps, rt⟩) (hn : argsL.length = ps.length) (hp : pc + 3 = pc') (hL : Ls.size = maxl) (hwd : (rest.map fun v => v.category).sum = wd) (hf : rm'.frames + 1 ≤ rm.frames) (hlo : wd + (maxL' + 11) + rm'.locals ≤ rm.locals) (hc : C + rm'.cells ≤ rm.cells) (hs : S + rm'.slots ≤ rm.slots) (K : ∀ T h' v sf', W Γ n0 T h' (C + rm'.cells) (S + rm'.slots) (sf' ++ sf) → QY v h' sf' → Go Γ n0 Q T (mkF Γ.m pc' Ls (v.toList ++ rest))) : Go Γ n0 Q T (mkF Γ.m pc Ls st) := by
  subst hp hst
  obtain ⟨hx, hZ0, hown0, hby, hml, hret, hnm, hlk, hR, hsH, hzz, hel, hew⟩ := G
  subst hzz hel
  obtain ⟨aw, hew⟩ := hew
  obtain ⟨L, vm0, k0, X, e, N, hS, hk, HD⟩ := X
  have hZ : Γ.Z.Warmed39 (Γ.s.setVm vm0).vm := State.Warmed39.trans hZ0 hS.1
  have hown : (Γ.s.setVm vm0).vm.findClass own = some Γ.m.cls := by rw [show (Γ.s.setVm vm0).vm = vm0 from rfl, hS.1.alike.findClass]; exact hown0
  obtain ⟨v1, _, ⟨T1, L1, k1, n1⟩, -, X1, hS1, hg1, ⟨Lc1, q1, l1, y1, z1, c1⟩, s1⟩ := callSS X hx hown (mvT hZ w1) (mvT hZ w2) (mvT hZ wz) (mvT hZ wc) hy (backHeld (Wd := wd) M hZ wc wz (hR ▸ hf) (hR ▸ hlo) hew HD.1.1 HD.2) (g := mkF Γ.m pc Ls (argsL.reverse ++ rest)) rfl (by rw [hml]; exact hL) (argsL := argsL) (rest := rest) (lenOf pd hn) rfl (by show 2 * 0 + _ ≤ _; omega) (hb hby hd) (fun _ _ => ⟨rfl, e, hR ▸ hc, hR ▸ hs⟩)
  dsimp only [Pt.U, Pt.locs, Pt.cells, Pt.slots] at X1 hS1 hg1 l1 y1 z1 s1 q1 c1
  subst l1 y1 z1
  obtain ⟨⟨sf1, q1, f1⟩, N1⟩ := q1
  exact Go.of (fun t k => s1.trans k) (K T1 _ v1 sf1 ⟨_, _, _, X1, rfl, Fr.app N N1, foldS hS (by rw [e]; exact hk) hS1 hg1, Nat.le_refl _, HD.1.trans c1, fun x hx => (List.mem_append.mp hx).elim (f1 x) fun m => ⟨Nat.lt_of_lt_of_le (HD.2 x m).1 c1.2.1, c1.safe (HD.2 x m).1 (HD.2 x m).2⟩⟩ q1)
theorem k_callI {a0 : Array Value} {idx : Nat} {y : MethodName} {by' : ByteArray} {maxL' : Nat} {rm' : Room} {ps : List FieldType} {rt : Option FieldType} {wd : Nat} {QY : Option Value → Heap → List Addr → Prop} {argsL rest : List Value} {a : Addr} (G : Ctx Γ Z EL own bytes maxl ret nm rm hs0) (X : W Γ n0 T h C S sf) (hst : st = argsL.reverse ++ .ref a :: rest) (hy1 : y.name = "<init>") (w1 : (Cond.methodLink own idx y).before a0 Z = true) (w2 : (Cond.instanceMethod y).before a0 Z = true) (wz : (Cond.initialized y.cls).before a0 Z = true) (wc : (Cond.code y by' maxL' none).before a0 Z = true) (hy : y.cls ≠ "java/lang/invoke/MethodHandle" ∧ y.cls ≠ "java/lang/invoke/VarHandle") (M : Met Z EL sf y by' maxL' none rm' (.ref a :: argsL).toArray h n0 QY) (hd : decode bytes pc = .ok (.invokespecial idx, 3)) (pd : parseMethodDescriptor y.desc = some ⟨ps, rt⟩) (hn : argsL.length = ps.length) (hp : pc + 3 = pc') (hL : Ls.size = maxl) (hwd : (rest.map fun v => v.category).sum = wd) (hf : rm'.frames + 1 ≤ rm.frames) (hlo : wd + (maxL' + 11) + rm'.locals ≤ rm.locals) (hc : C + rm'.cells ≤ rm.cells) (hs : S + rm'.slots ≤ rm.slots) (K : ∀ T h' v sf', W Γ n0 T h' (C + rm'.cells) (S + rm'.slots) (sf' ++ sf) → QY v h' sf' → Go Γ n0 Q T (mkF Γ.m pc' Ls (v.toList ++ rest))) : Go Γ n0 Q T (mkF Γ.m pc Ls st) := by
  subst hp hst
  obtain ⟨hx, hZ0, hown0, hby, hml, hret, hnm, hlk, hR, hsH, hzz, hel, hew⟩ := G
  subst hzz hel
  obtain ⟨aw, hew⟩ := hew
  obtain ⟨L, vm0, k0, X, e, N, hS, hk, HD⟩ := X
  have hZ : Γ.Z.Warmed39 (Γ.s.setVm vm0).vm := State.Warmed39.trans hZ0 hS.1
  have hown : (Γ.s.setVm vm0).vm.findClass own = some Γ.m.cls := by rw [show (Γ.s.setVm vm0).vm = vm0 from rfl, hS.1.alike.findClass]; exact hown0
  obtain ⟨v1, _, ⟨T1, L1, k1, n1⟩, -, X1, hS1, hg1, ⟨Lc1, q1, l1, y1, z1, c1⟩, s1⟩ := X.specialBackS hx hy1 hown (mvT hZ w1) (mvT hZ w2) (mvT hZ wc) hy (backHeld (Wd := wd) M hZ wc wz (hR ▸ hf) (hR ▸ hlo) hew HD.1.1 HD.2) (g := mkF Γ.m pc Ls (argsL.reverse ++ .ref a :: rest)) rfl (by rw [hml]; exact hL) (Steps.refl _) (a := a) (argsL := argsL) (rest := rest) (lenOf pd hn) rfl (by show 2 * 0 + _ ≤ _; omega) (hb hby hd) (fun _ _ => ⟨rfl, e, hR ▸ hc, hR ▸ hs⟩)
  dsimp only [Pt.U, Pt.locs, Pt.cells, Pt.slots] at X1 hS1 hg1 l1 y1 z1 s1 q1 c1
  subst l1 y1 z1
  obtain ⟨⟨sf1, q1, f1⟩, N1⟩ := q1
  exact Go.of (fun t k => s1.trans k) (K T1 _ v1 sf1 ⟨_, _, _, X1, rfl, Fr.app N N1, foldS hS (by rw [e]; exact hk) hS1 hg1, Nat.le_refl _, HD.1.trans c1, fun x hx => (List.mem_append.mp hx).elim (f1 x) fun m => ⟨Nat.lt_of_lt_of_le (HD.2 x m).1 c1.2.1, c1.safe (HD.2 x m).1 (HD.2 x m).2⟩⟩ q1)
theorem k_callV {a0 : Array Value} {idx : Nat} {y : MethodName} {by' : ByteArray} {maxL' : Nat} {ret' : Option FieldType} {rm' : Room} {ps : List FieldType} {rt : Option FieldType} {wd : Nat} {QY : Option Value → Heap → List Addr → Prop} {argsL rest : List Value} {a : Addr} {CC : String} {z : MethodName} (G : Ctx Γ Z EL own bytes maxl ret nm rm hs0) (X : W Γ n0 T h C S sf) (hst : st = argsL.reverse ++ .ref a :: rest) (E : Exa Z h a CC) (w1 : (Cond.methodLink own idx y).before a0 Z = true) (w2 : (Cond.declares y).before a0 Z = true) (nf : ∀ s : State, Z.Warmed39 s.vm → NotFace s y) (w3 : (Cond.selects CC y z).before a0 Z = true) (w4 : (Cond.instanceMethod z).before a0 Z = true) (wz : (Cond.initialized z.cls).before a0 Z = true) (wc : (Cond.code z by' maxL' ret').before a0 Z = true) (hy : y.cls ≠ "java/lang/invoke/MethodHandle" ∧ y.cls ≠ "java/lang/invoke/VarHandle") (M : Met Z EL sf z by' maxL' ret' rm' (.ref a :: argsL).toArray h n0 QY) (hd : decode bytes pc = .ok (.invokevirtual idx, 3)) (pd : parseMethodDescriptor y.desc = some ⟨ps, rt⟩) (hn : argsL.length = ps.length) (hp : pc + 3 = pc') (hL : Ls.size = maxl) (hwd : (rest.map fun v => v.category).sum = wd) (hf : rm'.frames + 1 ≤ rm.frames) (hlo : wd + (maxL' + 11) + rm'.locals ≤ rm.locals) (hc : C + rm'.cells ≤ rm.cells) (hs : S + rm'.slots ≤ rm.slots) (K : ∀ T h' v sf', W Γ n0 T h' (C + rm'.cells) (S + rm'.slots) (sf' ++ sf) → QY v h' sf' → Go Γ n0 Q T (mkF Γ.m pc' Ls (v.toList ++ rest))) : Go Γ n0 Q T (mkF Γ.m pc Ls st) := by
  subst hp hst
  obtain ⟨hx, hZ0, hown0, hby, hml, hret, hnm, hlk, hR, hsH, hzz, hel, hew⟩ := G
  subst hzz hel
  obtain ⟨aw, hew⟩ := hew
  obtain ⟨L, vm0, k0, X, e, N, hS, hk, HD⟩ := X
  have hZ : Γ.Z.Warmed39 (Γ.s.setVm vm0).vm := State.Warmed39.trans hZ0 hS.1
  have hown : (Γ.s.setVm vm0).vm.findClass own = some Γ.m.cls := by rw [show (Γ.s.setVm vm0).vm = vm0 from rfl, hS.1.alike.findClass]; exact hown0
  obtain ⟨cq, kq, qa, qb, qc⟩ := isOf hZ e E
  obtain ⟨v1, _, ⟨T1, L1, k1, n1⟩, -, X1, hS1, hg1, ⟨Lc1, q1, l1, y1, z1, c1⟩, s1⟩ := X.virtualBackS hx hown (mvT hZ w1) (mvT hZ w2) (nf _ hZ) (mvT hZ w3) (mvT hZ w4) hy (backHeld (Wd := wd) M hZ wc wz (hR ▸ hf) (hR ▸ hlo) hew HD.1.1 HD.2) qa qc (g := mkF Γ.m pc Ls (argsL.reverse ++ .ref a :: rest)) rfl (by rw [hml]; exact hL) (Steps.refl _) (argsL := argsL) (rest := rest) (lenOf pd hn) rfl (by show 2 * 0 + _ ≤ _; omega) (hb hby hd) (fun _ _ => ⟨rfl, e, hR ▸ hc, hR ▸ hs⟩)
  dsimp only [Pt.U, Pt.locs, Pt.cells, Pt.slots] at X1 hS1 hg1 l1 y1 z1 s1 q1 c1
  subst l1 y1 z1
  obtain ⟨⟨sf1, q1, f1⟩, N1⟩ := q1
  exact Go.of (fun t k => s1.trans k) (K T1 _ v1 sf1 ⟨_, _, _, X1, rfl, Fr.app N N1, foldS hS (by rw [e]; exact hk) hS1 hg1, Nat.le_refl _, HD.1.trans c1, fun x hx => (List.mem_append.mp hx).elim (f1 x) fun m => ⟨Nat.lt_of_lt_of_le (HD.2 x m).1 c1.2.1, c1.safe (HD.2 x m).1 (HD.2 x m).2⟩⟩ q1)
theorem nf_sel {a0 : Array Value} {CC : String} {y : MethodName} (w3 : (Cond.selects CC y y).before a0 Z = true) : ∀ s : State, Z.Warmed39 s.vm → NotFace s y := fun s hZ => notFace_of_selects (args := #[]) (mvT hZ w3)
theorem k_callF {a0 : Array Value} {idx : Nat} {y : MethodName} {by' : ByteArray} {maxL' : Nat} {ret' : Option FieldType} {rm' : Room} {ps : List FieldType} {rt : Option FieldType} {wd : Nat} {QY : Option Value → Heap → List Addr → Prop} {argsL rest : List Value} {a : Addr} {CC : String} {z : MethodName} {cnt : Nat} (G : Ctx Γ Z EL own bytes maxl ret nm rm hs0) (X : W Γ n0 T h C S sf) (hst : st = argsL.reverse ++ .ref a :: rest) (E : Exa Z h a CC) (w1 : (Cond.methodLink own idx y).before a0 Z = true) (w2 : (Cond.declares y).before a0 Z = true) (wf : (Cond.interfaceMethod y.cls y.cls y.name y.desc).before a0 Z = true) (hwf : ((Cond.interfaceMethod y.cls y.cls y.name y.desc).onTables && (Cond.interfaceMethod y.cls y.cls y.name y.desc).keepsFace) = true) (w3 : (Cond.selects CC y z).before a0 Z = true) (w4 : (Cond.instanceMethod z).before a0 Z = true) (wp : (Cond.publicMethod z).before a0 Z = true) (wu : (Cond.unhidden CC y.name y.desc).before a0 Z = true) (wk : (Cond.castable CC y.cls).before a0 Z = true) (wz : (Cond.initialized z.cls).before a0 Z = true) (wc : (Cond.code z by' maxL' ret').before a0 Z = true) (hy : y.cls ≠ "java/lang/invoke/MethodHandle" ∧ y.cls ≠ "java/lang/invoke/VarHandle") (M : Met Z EL sf z by' maxL' ret' rm' (.ref a :: argsL).toArray h n0 QY) (hd : decode bytes pc = .ok (.invokeinterface idx cnt, 5)) (pd : parseMethodDescriptor y.desc = some ⟨ps, rt⟩) (hn : argsL.length = ps.length) (hp : pc + 5 = pc') (hL : Ls.size = maxl) (hwd : (rest.map fun v => v.category).sum = wd) (hf : rm'.frames + 1 ≤ rm.frames) (hlo : wd + (maxL' + 11) + rm'.locals ≤ rm.locals) (hc : C + rm'.cells ≤ rm.cells) (hs : S + rm'.slots ≤ rm.slots) (K : ∀ T h' v sf', W Γ n0 T h' (C + rm'.cells) (S + rm'.slots) (sf' ++ sf) → QY v h' sf' → Go Γ n0 Q T (mkF Γ.m pc' Ls (v.toList ++ rest))) : Go Γ n0 Q T (mkF Γ.m pc Ls st) := by
  subst hp hst
  obtain ⟨hx, hZ0, hown0, hby, hml, hret, hnm, hlk, hR, hsH, hzz, hel, hew⟩ := G
  subst hzz hel
  obtain ⟨aw, hew⟩ := hew
  obtain ⟨L, vm0, k0, X, e, N, hS, hk, HD⟩ := X
  have hZ : Γ.Z.Warmed39 (Γ.s.setVm vm0).vm := State.Warmed39.trans hZ0 hS.1
  have hown : (Γ.s.setVm vm0).vm.findClass own = some Γ.m.cls := by rw [show (Γ.s.setVm vm0).vm = vm0 from rfl, hS.1.alike.findClass]; exact hown0
  obtain ⟨cq, kq, qa, qb, qc⟩ := isOf hZ e E
  obtain ⟨v1, _, ⟨T1, L1, k1, n1⟩, -, X1, hS1, hg1, ⟨Lc1, q1, l1, y1, z1, c1⟩, s1⟩ := X.interfaceBackS hx hown (mvT hZ w1) (mvT hZ w2) (mvT hZ wf hwf) (mvT hZ w3) (mvT hZ w4) (mvT hZ wp) (mvT hZ wu) (mvT hZ wk) hy (backHeld (Wd := wd) M hZ wc wz (hR ▸ hf) (hR ▸ hlo) hew HD.1.1 HD.2) qa qb qc (g := mkF Γ.m pc Ls (argsL.reverse ++ .ref a :: rest)) rfl (by rw [hml]; exact hL) (Steps.refl _) (argsL := argsL) (rest := rest) (lenOf pd hn) rfl (by show 2 * 0 + _ ≤ _; omega) (hb hby hd) (fun _ _ => ⟨rfl, e, hR ▸ hc, hR ▸ hs⟩)
  dsimp only [Pt.U, Pt.locs, Pt.cells, Pt.slots] at X1 hS1 hg1 l1 y1 z1 s1 q1 c1
  subst l1 y1 z1
  obtain ⟨⟨sf1, q1, f1⟩, N1⟩ := q1
  exact Go.of (fun t k => s1.trans k) (K T1 _ v1 sf1 ⟨_, _, _, X1, rfl, Fr.app N N1, foldS hS (by rw [e]; exact hk) hS1 hg1, Nat.le_refl _, HD.1.trans c1, fun x hx => (List.mem_append.mp hx).elim (f1 x) fun m => ⟨Nat.lt_of_lt_of_le (HD.2 x m).1 c1.2.1, c1.safe (HD.2 x m).1 (HD.2 x m).2⟩⟩ q1)
theorem k_callP {a0 : Array Value} {idx : Nat} {y : MethodName} {by' : ByteArray} {maxL' : Nat} {ret' : Option FieldType} {rm' : Room} {ps : List FieldType} {rt : Option FieldType} {wd : Nat} {QY : Option Value → Heap → List Addr → Prop} {argsL rest : List Value} {a : Addr} {CC : String} (G : Ctx Γ Z EL own bytes maxl ret nm rm hs0) (X : W Γ n0 T h C S sf) (hst : st = argsL.reverse ++ .ref a :: rest) (E : Exa Z h a CC) (w1 : (Cond.methodLink own idx y).before a0 Z = true) (w2 : (Cond.instanceMethod y).before a0 Z = true) (w3 : (Cond.selects y.cls y y).before a0 Z = true) (wp : (Cond.privateMethod y).before a0 Z = true) (wz : (Cond.initialized y.cls).before a0 Z = true) (wc : (Cond.code y by' maxL' ret').before a0 Z = true) (hy : y.cls ≠ "java/lang/invoke/MethodHandle" ∧ y.cls ≠ "java/lang/invoke/VarHandle") (M : Met Z EL sf y by' maxL' ret' rm' (.ref a :: argsL).toArray h n0 QY) (hd : decode bytes pc = .ok (.invokevirtual idx, 3)) (pd : parseMethodDescriptor y.desc = some ⟨ps, rt⟩) (hn : argsL.length = ps.length) (hp : pc + 3 = pc') (hL : Ls.size = maxl) (hwd : (rest.map fun v => v.category).sum = wd) (hf : rm'.frames + 1 ≤ rm.frames) (hlo : wd + (maxL' + 11) + rm'.locals ≤ rm.locals) (hc : C + rm'.cells ≤ rm.cells) (hs : S + rm'.slots ≤ rm.slots) (K : ∀ T h' v sf', W Γ n0 T h' (C + rm'.cells) (S + rm'.slots) (sf' ++ sf) → QY v h' sf' → Go Γ n0 Q T (mkF Γ.m pc' Ls (v.toList ++ rest))) : Go Γ n0 Q T (mkF Γ.m pc Ls st) := by
  subst hp hst
  obtain ⟨hx, hZ0, hown0, hby, hml, hret, hnm, hlk, hR, hsH, hzz, hel, hew⟩ := G
  subst hzz hel
  obtain ⟨aw, hew⟩ := hew
  obtain ⟨L, vm0, k0, X, e, N, hS, hk, HD⟩ := X
  have hZ : Γ.Z.Warmed39 (Γ.s.setVm vm0).vm := State.Warmed39.trans hZ0 hS.1
  have hown : (Γ.s.setVm vm0).vm.findClass own = some Γ.m.cls := by rw [show (Γ.s.setVm vm0).vm = vm0 from rfl, hS.1.alike.findClass]; exact hown0
  obtain ⟨cq, qa, qb⟩ := E.cell
  obtain ⟨v1, _, ⟨T1, L1, k1, n1⟩, -, X1, hS1, hg1, ⟨Lc1, q1, l1, y1, z1, c1⟩, s1⟩ := X.privateBackS hx hown (mvT hZ w1) (mvT hZ w2) (mvT hZ w3) (Cond.privateMethod_at (mvP hZ wp (args := #[]))) (mvT hZ wc) hy (backHeld (Wd := wd) M hZ wc wz (hR ▸ hf) (hR ▸ hlo) hew HD.1.1 HD.2) (g := mkF Γ.m pc Ls (argsL.reverse ++ .ref a :: rest)) rfl (by rw [hml]; exact hL) (Steps.refl _) (a := a) (by rw [e]; exact qa) qb (argsL := argsL) (rest := rest) (lenOf pd hn) rfl (by show 2 * 0 + _ ≤ _; omega) (hb hby hd) (fun _ _ => ⟨rfl, e, hR ▸ hc, hR ▸ hs⟩)
  dsimp only [Pt.U, Pt.locs, Pt.cells, Pt.slots] at X1 hS1 hg1 l1 y1 z1 s1 q1 c1
  subst l1 y1 z1
  obtain ⟨⟨sf1, q1, f1⟩, N1⟩ := q1
  exact Go.of (fun t k => s1.trans k) (K T1 _ v1 sf1 ⟨_, _, _, X1, rfl, Fr.app N N1, foldS hS (by rw [e]; exact hk) hS1 hg1, Nat.le_refl _, HD.1.trans c1, fun x hx => (List.mem_append.mp hx).elim (f1 x) fun m => ⟨Nat.lt_of_lt_of_le (HD.2 x m).1 c1.2.1, c1.safe (HD.2 x m).1 (HD.2 x m).2⟩⟩ q1)
theorem k_callU {a0 : Array Value} {idx : Nat} {y : MethodName} {by' : ByteArray} {maxL' : Nat} {ret' : Option FieldType} {rm' : Room} {ps : List FieldType} {rt : Option FieldType} {wd : Nat} {QY : Option Value → Heap → List Addr → Prop} {argsL rest : List Value} {a : Addr} {KS : String} (G : Ctx Γ Z EL own bytes maxl ret nm rm hs0) (X : W Γ n0 T h C S sf) (hst : st = argsL.reverse ++ .ref a :: rest) (I : Ins Z h a KS true) (w1 : (Cond.methodLink own idx y).before a0 Z = true) (w2 : (Cond.sameMethod y.cls y.cls y.name y.desc).before a0 Z = true) (w3 : (Cond.instanceMethod y).before a0 Z = true) (w4 : (Cond.superclass own y.cls).before a0 Z = true) (hni : y.name ≠ "<init>") (wz : (Cond.initialized y.cls).before a0 Z = true) (wc : (Cond.code y by' maxL' ret').before a0 Z = true) (M : Met Z EL sf y by' maxL' ret' rm' (.ref a :: argsL).toArray h n0 QY) (hd : decode bytes pc = .ok (.invokespecial idx, 3)) (pd : parseMethodDescriptor y.desc = some ⟨ps, rt⟩) (hn : argsL.length = ps.length) (hp : pc + 3 = pc') (hL : Ls.size = maxl) (hwd : (rest.map fun v => v.category).sum = wd) (hf : rm'.frames + 1 ≤ rm.frames) (hlo : wd + (maxL' + 11) + rm'.locals ≤ rm.locals) (hc : C + rm'.cells ≤ rm.cells) (hs : S + rm'.slots ≤ rm.slots) (K : ∀ T h' v sf', W Γ n0 T h' (C + rm'.cells) (S + rm'.slots) (sf' ++ sf) → QY v h' sf' → Go Γ n0 Q T (mkF Γ.m pc' Ls (v.toList ++ rest))) : Go Γ n0 Q T (mkF Γ.m pc Ls st) := by
  subst hp hst
  obtain ⟨hx, hZ0, hown0, hby, hml, hret, hnm, hlk, hR, hsH, hzz, hel, hew⟩ := G
  subst hzz hel
  obtain ⟨aw, hew⟩ := hew
  obtain ⟨L, vm0, k0, X, e, N, hS, hk, HD⟩ := X
  have hZ : Γ.Z.Warmed39 (Γ.s.setVm vm0).vm := State.Warmed39.trans hZ0 hS.1
  have hown : (Γ.s.setVm vm0).vm.findClass own = some Γ.m.cls := by rw [show (Γ.s.setVm vm0).vm = vm0 from rfl, hS.1.alike.findClass]; exact hown0
  obtain ⟨v1, _, ⟨T1, L1, k1, n1⟩, -, X1, hS1, hg1, ⟨Lc1, q1, l1, y1, z1, c1⟩, s1⟩ := superBackS X hx hZ hown w1 w2 w3 w4 hni (backHeld (Wd := wd) M hZ wc wz (hR ▸ hf) (hR ▸ hlo) hew HD.1.1 HD.2) e I (g := mkF Γ.m pc Ls (argsL.reverse ++ .ref a :: rest)) rfl (by rw [hml]; exact hL) wc (argsL := argsL) (rest := rest) (lenOf pd hn) rfl (by show 2 * 0 + _ ≤ _; omega) (hb hby hd) (fun _ _ => ⟨rfl, e, hR ▸ hc, hR ▸ hs⟩)
  dsimp only [Pt.U, Pt.locs, Pt.cells, Pt.slots] at X1 hS1 hg1 l1 y1 z1 s1 q1 c1
  subst l1 y1 z1
  obtain ⟨⟨sf1, q1, f1⟩, N1⟩ := q1
  exact Go.of (fun t k => s1.trans k) (K T1 _ v1 sf1 ⟨_, _, _, X1, rfl, Fr.app N N1, foldS hS (by rw [e]; exact hk) hS1 hg1, Nat.le_refl _, HD.1.trans c1, fun x hx => (List.mem_append.mp hx).elim (f1 x) fun m => ⟨Nat.lt_of_lt_of_le (HD.2 x m).1 c1.2.1, c1.safe (HD.2 x m).1 (HD.2 x m).2⟩⟩ q1)
/-! ### arrays: the components by a function of their place -/
def Arf (Z : State) (h : Heap) (a : Addr) (k : ClassId) (ty : FieldType) (n : Nat) (f : Nat → Value) : Prop := ∃ c : Cell, Arr Z h a c ty ∧ c.cls = k ∧ c.slots.size = n ∧ n < 2147483648 ∧ ∀ i, i < n → c.slots[i]? = some (f i) ∧ fits ty (f i) = true
section A
variable {h' : Heap} {a b : Addr} {k : ClassId} {ty : FieldType} {n : Nat} {f g : Nat → Value} {v : Value} {sl : Nat} {ws : List Addr}
theorem Arf.lt (F : Arf Z h a k ty n f) : a < h.size := by obtain ⟨c, A, -⟩ := F; exact A.lt
theorem Arf.ext (F : Arf Z h a k ty n f) (E : Ext h h') : Arf Z h' a k ty n f := by obtain ⟨c, A, r⟩ := F; exact ⟨c, A.ext E, r⟩
theorem Arf.other (F : Arf Z h b k ty n f) (W : Wr h h' a sl v) (q : b ≠ a) : Arf Z h' b k ty n f := by obtain ⟨c, A, r⟩ := F; exact ⟨c, A.other W q, r⟩
theorem Arf.keep (F : Arf Z h a k ty n f) (K : Keep h h' ws) (q : a ∉ ws) : Arf Z h' a k ty n f := by obtain ⟨c, A, r⟩ := F; exact ⟨c, ⟨K.2.1 a c A.1 q, A.2⟩, r⟩
theorem Arf.congr (F : Arf Z h a k ty n f) (q : ∀ i, i < n → f i = g i) : Arf Z h a k ty n g := by
  obtain ⟨c, A, r1, r2, r3, H⟩ := F
  exact ⟨c, A, r1, r2, r3, fun i hi => by rw [← q i hi]; exact H i hi⟩
theorem Arf.size_lt (F : Arf Z h a k ty n f) : n < 2147483648 := by obtain ⟨c, A, r1, r2, r3, H⟩ := F; exact r3
theorem Arf.fits (F : Arf Z h a k ty n f) {i : Nat} (hi : i < n) : fits ty (f i) = true := by obtain ⟨c, A, r1, r2, r3, H⟩ := F; exact (H i hi).2
theorem idx_of {j : Int32} {i : Nat} (hj : j.toInt = i) : ¬ j < 0 ∧ j.toNatClampNeg = i := by
  rw [Int32.lt_iff_toInt_lt, show (0 : Int32).toInt = 0 from rfl, hj]
  exact ⟨by omega, by simp only [Int32.toNatClampNeg, hj]; omega⟩
theorem Arf.set (F : Arf Z h a k ty n f) {i : Nat} (W : Wr h h' a i v) (hi : i < n) (hv : Jvm.fits ty v = true) : Arf Z h' a k ty n (fun x => if x = i then v else f x) := by
  obtain ⟨c, A, r1, r2, r3, H⟩ := F
  refine ⟨_, A.same W, r1, by rw [sz_set]; exact r2, r3, fun x hx => ?_⟩
  by_cases q : x = i
  · subst q
    refine ⟨?_, by simpa using hv⟩
    simp [Cell.setSlot, r2, hx]
  · refine ⟨?_, by simpa [q] using (H x hx).2⟩
    simp only [Cell.setSlot, if_neg q]
    rw [Array.getElem?_setIfInBounds_ne (fun e => q e.symm)]; exact (H x hx).1
theorem Arf.new {z : Int32} (A : Arr Z h a (newA k ty z) ty) (hz : z.toInt = n) : Arf Z h a k ty n (fun _ => defaultValue ty) := by
  have q := idx_of hz
  refine ⟨_, A, rfl, by rw [sz_new, q.2], by have := Int32.toInt_lt z; omega, fun i hi => ⟨?_, by cases ty <;> rfl⟩⟩
  simp [newA, q.2, hi]
theorem Arf.arv (F : Arf Z h a k ty n f) {z : Int32} (hz : z.toInt = n) (dv : Value) : Arv Z h a k ty z ((List.range n).map f) dv := by
  obtain ⟨c, A, r1, r2, r3, H⟩ := F
  have q := idx_of hz
  refine ⟨c, A, r1, by rw [r2, q.2], q.1, fun i hi => ?_, fun i hi => ?_⟩
  · rw [r2] at hi; rw [(H i hi).1]; simp [List.getD_eq_getElem?_getD, hi]
  · rw [r2] at hi; have := (H i hi).2; simpa [List.getD_eq_getElem?_getD, hi] using this
theorem Arf.of_arv {z : Int32} {vs : List Value} {dv : Value} (F : Arv Z h a k ty z vs dv) (hz : z.toInt = n) (q : ∀ i, i < n → vs.getD i dv = f i) : Arf Z h a k ty n f := by
  obtain ⟨c, A, r1, r2, r3, H, G⟩ := F
  have q' := idx_of hz
  refine ⟨c, A, r1, by rw [r2, q'.2], by have := Int32.toInt_lt z; omega, fun i hi => ?_⟩
  have hi' : i < c.slots.size := by rw [r2, q'.2]; exact hi
  rw [← q i hi]; exact ⟨H i hi', G i hi'⟩
theorem Pln_arf (F : Arf Z h a k ty n f) : ∀ cell : Cell, h[a]? = some cell → cell.vm.isStatics = false := fun cell hc => by obtain ⟨c, A, -⟩ := F; cases A.1.symm.trans hc; exact A.plain
end A

theorem k_newP {a0 : Array Value} {aty : ArrayType} {z : Int32} {n cap : Nat} (G : Ctx Γ Z EL own bytes maxl ret nm rm hs0) (X : W Γ n0 T h C S sf) (w : (Cond.arrayClass (newarray.typeOf aty)).before a0 Z = true) (hd : decode bytes pc = .ok (.newarray aty, 2)) (hp : pc + 2 = pc') (hz : z.toInt = n) (hcap : n ≤ cap) (hbig : cap * 8 ≤ 536870912) (hc : C + 1 ≤ rm.cells) (hs : S + cap ≤ rm.slots) (K : ∀ T h' a k, h.size = a → Ext h h' → Arf Z h' a k (newarray.typeOf aty) n (fun _ => defaultValue (newarray.typeOf aty)) → W Γ n0 T h' (C + 1) (S + cap) (a :: sf) → Go Γ n0 Q T (mkF Γ.m pc' Ls (.ref a :: st))) : Go Γ n0 Q T (mkF Γ.m pc Ls (.int z :: st)) := by
  subst hp
  obtain ⟨hx, hZ0, hown0, hby, hml, hret, hnm, hlk, hR, hsH, hzz, hel, hew⟩ := G
  subst hzz hel
  obtain ⟨aw, hew⟩ := hew
  obtain ⟨L, vm0, k0, X, e, N, hS, hk, HD⟩ := X
  have hZ : Γ.Z.Warmed39 (Γ.s.setVm vm0).vm := State.Warmed39.trans hZ0 hS.1
  have hown : (Γ.s.setVm vm0).vm.findClass own = some Γ.m.cls := by rw [show (Γ.s.setVm vm0).vm = vm0 from rfl, hS.1.alike.findClass]; exact hown0
  obtain ⟨T', h', k', X', e', E', A', st'⟩ := newP X hx hZ w e (g := mkF Γ.m pc Ls (.int z :: st)) rfl (hb hby hd) rfl (idx_of hz).1 (cap := cap) (by rw [(idx_of hz).2]; exact hcap) hbig (hR ▸ hc) (hR ▸ hs)
  exact Go.of st' (K T' h' _ k' rfl E' (Arf.new A' hz) ⟨L, vm0, k0, X', e', N, hS, (Nat.le_trans hk E'.1), HD.new E' A'.lt⟩)
theorem k_newPE {a0 : Array Value} {aty : ArrayType} {z : Int32} {n cap : Nat} {ad : String} (G : Ctx Γ Z EL own bytes maxl ret nm rm hs0) (X : W Γ n0 T h C S sf) (w : (Cond.arrayClass (newarray.typeOf aty)).before a0 Z = true) (had : "[" ++ (newarray.typeOf aty).toString = ad) (hd : decode bytes pc = .ok (.newarray aty, 2)) (hp : pc + 2 = pc') (hz : z.toInt = n) (hcap : n ≤ cap) (hbig : cap * 8 ≤ 536870912) (hc : C + 1 ≤ rm.cells) (hs : S + cap ≤ rm.slots) (K : ∀ T h' a k, h.size = a → Ext h h' → Arf Z h' a k (newarray.typeOf aty) n (fun _ => defaultValue (newarray.typeOf aty)) → Exa Z h' a ad → W Γ n0 T h' (C + 1) (S + cap) (a :: sf) → Go Γ n0 Q T (mkF Γ.m pc' Ls (.ref a :: st))) : Go Γ n0 Q T (mkF Γ.m pc Ls (.int z :: st)) := by
  subst hp
  obtain ⟨hx, hZ0, hown0, hby, hml, hret, hnm, hlk, hR, hsH, hzz, hel, hew⟩ := G
  subst hzz hel
  obtain ⟨aw, hew⟩ := hew
  obtain ⟨L, vm0, k0, X, e, N, hS, hk, HD⟩ := X
  have hZ : Γ.Z.Warmed39 (Γ.s.setVm vm0).vm := State.Warmed39.trans hZ0 hS.1
  have hown : (Γ.s.setVm vm0).vm.findClass own = some Γ.m.cls := by rw [show (Γ.s.setVm vm0).vm = vm0 from rfl, hS.1.alike.findClass]; exact hown0
  obtain ⟨T', h', k', X', e', E', A', Y', st'⟩ := newPE X hx hZ w e (g := mkF Γ.m pc Ls (.int z :: st)) rfl (hb hby hd) rfl (idx_of hz).1 (cap := cap) (by rw [(idx_of hz).2]; exact hcap) hbig (hR ▸ hc) (hR ▸ hs) had
  exact Go.of st' (K T' h' _ k' rfl E' (Arf.new A' hz) Y' ⟨L, vm0, k0, X', e', N, hS, (Nat.le_trans hk E'.1), HD.new E' A'.lt⟩)
theorem k_clone {a0 : Array Value} {idx n cap wd : Nat} {b : Addr} {k : ClassId} {ty : FieldType} {f : Nat → Value} {ad : String} (G : Ctx Γ Z EL own bytes maxl ret nm rm hs0) (X : W Γ n0 T h C S sf) (F : Arf Z h b k ty n f) (Y : Exa Z h b ad) (w1 : (Cond.methodLink own idx ⟨ad, "clone", "()Ljava/lang/Object;"⟩).before a0 Z = true) (w2 : (Cond.sameMethod ad "java/lang/Object" "clone" "()Ljava/lang/Object;").before a0 Z = true) (w3 : (Cond.native ⟨"java/lang/Object", "clone", "()Ljava/lang/Object;"⟩).before a0 Z = true)
    (w4 : (Cond.instanceMethod ⟨"java/lang/Object", "clone", "()Ljava/lang/Object;"⟩).before a0 Z = true) (w5 : (Cond.selects ad ⟨ad, "clone", "()Ljava/lang/Object;"⟩ ⟨"java/lang/Object", "clone", "()Ljava/lang/Object;"⟩).before a0 Z = true) (w6 : (Cond.castable ad "java/lang/Cloneable").before a0 Z = true) (hd : decode bytes pc = .ok (.invokevirtual idx, 3)) (hp : pc + 3 = pc') (hL : Ls.size = maxl) (hf : 1 ≤ rm.frames) (hwd : (st.map fun v => v.category).sum = wd) (hlo : wd + 14 ≤ rm.locals) (hcap : n ≤ cap) (hc : C + 1 ≤ rm.cells) (hs : S + cap ≤ rm.slots)
    (K : ∀ T h' a, h.size = a → Ext h h' → Arf Z h' a k ty n f → Exa Z h' a ad → W Γ n0 T h' (C + 1) (S + cap) (a :: sf) → Go Γ n0 Q T (mkF Γ.m pc' Ls (.ref a :: st))) : Go Γ n0 Q T (mkF Γ.m pc Ls (.ref b :: st)) := by
  subst hp
  obtain ⟨hx, hZ0, hown0, hby, hml, hret, hnm, hlk, hR, hsH, hzz, hel, hew⟩ := G
  subst hzz hel
  obtain ⟨aw, hew⟩ := hew
  obtain ⟨L, vm0, k0, X, e, N, hS, hk, HD⟩ := X
  have hZ : Γ.Z.Warmed39 (Γ.s.setVm vm0).vm := State.Warmed39.trans hZ0 hS.1
  have hown : (Γ.s.setVm vm0).vm.findClass own = some Γ.m.cls := by rw [show (Γ.s.setVm vm0).vm = vm0 from rfl, hS.1.alike.findClass]; exact hown0
  obtain ⟨cl, A, r1, r2, r3, H⟩ := F
  obtain ⟨T', h', X', e', E', A', Y', st'⟩ := cloneA X hx hZ hown w1 w2 w3 w4 w5 w6 e A Y (fitC_of A fun i hi v hv => by rw [(H i (by rw [← r2]; exact hi)).1] at hv; cases hv; exact (H i (by rw [← r2]; exact hi)).2) (g := mkF Γ.m pc Ls (.ref b :: st)) rfl (by rw [hml]; exact hL) rfl (hb hby hd) (hR ▸ hf) (W := wd) (by show 2 * 0 + _ ≤ _; omega) (hR ▸ hlo) (cap := cap) (by rw [r2]; exact hcap) (hR ▸ hc) (hR ▸ hs)
  exact Go.of st' (K T' h' _ rfl E' ⟨cloneOf cl, A', r1, r2, r3, H⟩ Y' ⟨L, vm0, k0, X', e', N, hS, (Nat.le_trans hk E'.1), HD.new E' A'.lt⟩)
theorem k_alen {a : Addr} {k : ClassId} {ty : FieldType} {n : Nat} {f : Nat → Value} {z : Int32} (G : Ctx Γ Z EL own bytes maxl ret nm rm hs0) (X : W Γ n0 T h C S sf) (F : Arf Z h a k ty n f) (hz : z.toInt = n) (hd : decode bytes pc = .ok (.arraylength, 1)) (hp : pc + 1 = pc') (K : Go Γ n0 Q T (mkF Γ.m pc' Ls (.int z :: st))) : Go Γ n0 Q T (mkF Γ.m pc Ls (.ref a :: st)) := by
  subst hp
  obtain ⟨hx, hZ0, hown0, hby, hml, hret, hnm, hlk, hR, hsH, hzz, hel, hew⟩ := G
  subst hzz hel
  obtain ⟨aw, hew⟩ := hew
  obtain ⟨L, vm0, k0, X, e, N, hS, hk, HD⟩ := X
  have hZ : Γ.Z.Warmed39 (Γ.s.setVm vm0).vm := State.Warmed39.trans hZ0 hS.1
  have hown : (Γ.s.setVm vm0).vm.findClass own = some Γ.m.cls := by rw [show (Γ.s.setVm vm0).vm = vm0 from rfl, hS.1.alike.findClass]; exact hown0
  obtain ⟨cl, A, r1, r2, r3, H⟩ := F
  have q : cl.slots.size.toInt32 = z := by rw [r2]; exact Int32.toInt_inj.mp (by rw [len_toInt r3, hz])
  rw [← q] at K
  exact Go.of (fun t k' => X.arraylength hx (by rw [e]; exact A.1) (State.isArrayOf_alike hZ.alike A.2.1) (g := mkF Γ.m pc Ls (.ref a :: st)) rfl rfl (hb hby hd) t k') K
theorem k_baload {a : Addr} {k : ClassId} {n i : Nat} {f : Nat → Value} {j : Int32} {v : Value} (G : Ctx Γ Z EL own bytes maxl ret nm rm hs0) (X : W Γ n0 T h C S sf) (F : Arf Z h a k .byte n f) (hj : j.toInt = i) (hi : i < n) (hv : f i = v) (hd : decode bytes pc = .ok (.baload, 1)) (hp : pc + 1 = pc') (K : Go Γ n0 Q T (mkF Γ.m pc' Ls (v :: st))) : Go Γ n0 Q T (mkF Γ.m pc Ls (.int j :: .ref a :: st)) := by
  subst hp hv
  obtain ⟨hx, hZ0, hown0, hby, hml, hret, hnm, hlk, hR, hsH, hzz, hel, hew⟩ := G
  subst hzz hel
  obtain ⟨aw, hew⟩ := hew
  obtain ⟨L, vm0, k0, X, e, N, hS, hk, HD⟩ := X
  have hZ : Γ.Z.Warmed39 (Γ.s.setVm vm0).vm := State.Warmed39.trans hZ0 hS.1
  have hown : (Γ.s.setVm vm0).vm.findClass own = some Γ.m.cls := by rw [show (Γ.s.setVm vm0).vm = vm0 from rfl, hS.1.alike.findClass]; exact hown0
  obtain ⟨cl, A, r1, r2, r3, H⟩ := F
  have q := idx_of hj
  exact Go.of (fun t k' => X.baloadBytes hx (by rw [e]; exact A.1) (State.isArrayOf_alike hZ.alike A.2.1) A.2.2 (by rw [r2, q.2]; exact fun u => u.elim q.1 (Nat.not_le.mpr hi)) (by rw [q.2]; exact (H i hi).1) (g := mkF Γ.m pc Ls (.int j :: .ref a :: st)) rfl rfl (hb hby hd) t k') K
theorem k_bastore {a : Addr} {k : ClassId} {n i : Nat} {f : Nat → Value} {j x z : Int32} (G : Ctx Γ Z EL own bytes maxl ret nm rm hs0) (X : W Γ n0 T h C S sf) (F : Arf Z h a k .byte n f) (hj : j.toInt = i) (hi : i < n) (hz : nar .byte x = z) (ga : n0 ≤ a) (ms : a ∈ sf) (hd : decode bytes pc = .ok (.bastore, 1)) (hp : pc + 1 = pc') (K : ∀ T h', Wr h h' a i (.int z) → Arf Z h' a k .byte n (fun x => if x = i then (.int z) else f x) → W Γ n0 T h' C S sf → Go Γ n0 Q T (mkF Γ.m pc' Ls st)) : Go Γ n0 Q T (mkF Γ.m pc Ls (.int x :: .int j :: .ref a :: st)) := by
  subst hp hz
  obtain ⟨hx, hZ0, hown0, hby, hml, hret, hnm, hlk, hR, hsH, hzz, hel, hew⟩ := G
  subst hzz hel
  obtain ⟨aw, hew⟩ := hew
  obtain ⟨L, vm0, k0, X, e, N, hS, hk, HD⟩ := X
  have hZ : Γ.Z.Warmed39 (Γ.s.setVm vm0).vm := State.Warmed39.trans hZ0 hS.1
  have hown : (Γ.s.setVm vm0).vm.findClass own = some Γ.m.cls := by rw [show (Γ.s.setVm vm0).vm = vm0 from rfl, hS.1.alike.findClass]; exact hown0
  have F0 := F
  obtain ⟨cl, A, r1, r2, r3, H⟩ := F
  have q := idx_of hj
  obtain ⟨T', h', X', e', W', st'⟩ := stB X hx hZ e A (j := j) (x := x) (by rw [r2, q.2]; exact fun u => u.elim q.1 (Nat.not_le.mpr hi)) (g := mkF Γ.m pc Ls (.int x :: .int j :: .ref a :: st)) rfl rfl (hb hby hd)
  rw [q.2] at W' X'
  exact Go.of st' (K T' h' W' (F0.set W' hi (fits_nar_byte _)) ⟨_, vm0, k0, X', e', Fr.snoc X' N ga, hS, (by rw [W'.size]; exact hk), HD.wr W' ms⟩)
theorem k_copy {a0 : Array Value} {idx : Nat} {a b : Addr} {k k' : ClassId} {ty : FieldType} {n n' sp dp nn wd : Nat} {f g : Nat → Value} {js jd jn : Int32} (G : Ctx Γ Z EL own bytes maxl ret nm rm hs0) (X : W Γ n0 T h C S sf) (F : Arf Z h a k ty n f) (F' : Arf Z h b k' ty n' g) (hty : refKind ty = false)
    (w1 : (Cond.methodLink own idx Jvm.Stand.acN).before a0 Z = true) (w2 : (Cond.native Jvm.Stand.acN).before a0 Z = true) (w3 : (Cond.static Jvm.Stand.acN).before a0 Z = true) (w4 : (Cond.initialized "java/lang/System").before a0 Z = true)
    (hjs : js.toInt = sp) (hjd : jd.toInt = dp) (hjn : jn.toInt = nn) (h1 : sp + nn ≤ n) (h2 : dp + nn ≤ n') (gb : n0 ≤ b) (ms : b ∈ sf) (hd : decode bytes pc = .ok (.invokestatic idx, 3)) (hp : pc + 3 = pc') (hL : Ls.size = maxl) (hf : 1 ≤ rm.frames) (hwd : (st.map fun v => v.category).sum = wd) (hlo : wd + (nativeFrameWords "java/lang/System" "arraycopy" 5 + 11) ≤ rm.locals)
    (K : ∀ T h', Keep h h' [b] → Arf Z h' b k' ty n' (fun i => if dp ≤ i ∧ i < dp + nn then f (sp + (i - dp)) else g i) → W Γ n0 T h' C S sf → Go Γ n0 Q T (mkF Γ.m pc' Ls st)) : Go Γ n0 Q T (mkF Γ.m pc Ls (.int jn :: .int jd :: .ref b :: .int js :: .ref a :: st)) := by
  subst hp
  obtain ⟨hx, hZ0, hown0, hby, hml, hret, hnm, hlk, hR, hsH, hzz, hel, hew⟩ := G
  subst hzz hel
  obtain ⟨aw, hew⟩ := hew
  obtain ⟨L, vm0, k0, X, e, N, hS, hk, HD⟩ := X
  have hZ : Γ.Z.Warmed39 (Γ.s.setVm vm0).vm := State.Warmed39.trans hZ0 hS.1
  have hown : (Γ.s.setVm vm0).vm.findClass own = some Γ.m.cls := by rw [show (Γ.s.setVm vm0).vm = vm0 from rfl, hS.1.alike.findClass]; exact hown0
  obtain ⟨z, hz⟩ : ∃ z : Int32, z.toInt = n := ⟨n.toInt32, len_toInt F.size_lt⟩
  obtain ⟨z', hz'⟩ : ∃ z : Int32, z.toInt = n' := ⟨n'.toInt32, len_toInt F'.size_lt⟩
  have A := F.arv hz .null
  have B := F'.arv hz' .null
  obtain ⟨qs1, qs2⟩ := idx_of hjs
  obtain ⟨qd1, qd2⟩ := idx_of hjd
  obtain ⟨qn1, qn2⟩ := idx_of hjn
  obtain ⟨T', h', L', X', e', N', K', A', st'⟩ := cpA X hx hZ hown w1 w2 w3 w4 e A B (Or.inl ⟨rfl, hty⟩) qs1 qd1 qn1 (by rw [qs2, qn2, (idx_of hz).2]; exact h1) (by rw [qd2, qn2, (idx_of hz').2]; exact h2) rfl (by rw [qd2, qn2]; simpa using h2) N gb (g := mkF Γ.m pc Ls (.int jn :: .int jd :: .ref b :: .int js :: .ref a :: st)) rfl (by rw [hml]; exact hL) rfl (hb hby hd) (hR ▸ hf) (W := wd) (by show 2 * 0 + _ ≤ _; omega) (hR ▸ hlo)
  refine Go.of st' (K T' h' K' (Arf.of_arv A' hz' fun i hi => ?_) ⟨L', vm0, k0, X', e', N', hS, Nat.le_trans hk K'.1, HD.keep K' ms⟩)
  rw [qs2, qd2, qn2]
  simp only [List.getD_eq_getElem?_getD]
  have lt : (((List.range n').map g).take dp).length = dp := by simp; omega
  by_cases c1 : i < dp
  · rw [List.append_assoc, List.getElem?_append_left (by rw [lt]; exact c1), List.getElem?_take_of_lt c1, if_neg (by omega)]
    simp [hi]
  · by_cases c2 : i < dp + nn
    · rw [List.getElem?_append_left (by rw [List.length_append, lt]; simp; omega), List.getElem?_append_right (by omega), lt, if_pos (by omega)]
      have q1 : i - dp < nn := by omega
      have q2 : sp + (i - dp) < n := by omega
      simp [q1, q2]
    · rw [List.getElem?_append_right (by rw [List.length_append, lt]; simp; omega), if_neg (by omega), List.getElem?_drop]
      have q3 : dp + nn + (i - (((List.range n').map g).take dp ++ (List.range nn).map fun i => (((List.range n).map f)[sp + i]?).getD .null).length) = i := by rw [List.length_append, lt]; simp; omega
      rw [q3]; simp [hi]
theorem k_castNull {idx : Nat} (G : Ctx Γ Z EL own bytes maxl ret nm rm hs0) (X : W Γ n0 T h C S sf) (hd : decode bytes pc = .ok (.checkcast idx, 3)) (hp : pc + 3 = pc') (K : Go Γ n0 Q T (mkF Γ.m pc' Ls (.null :: st))) : Go Γ n0 Q T (mkF Γ.m pc Ls (.null :: st)) := by
  subst hp
  obtain ⟨hx, hZ0, hown0, hby, hml, hret, hnm, hlk, hR, hsH, hzz, hel, hew⟩ := G
  subst hzz hel
  obtain ⟨aw, hew⟩ := hew
  obtain ⟨L, vm0, k0, X, e, N, hS, hk, HD⟩ := X
  have hZ : Γ.Z.Warmed39 (Γ.s.setVm vm0).vm := State.Warmed39.trans hZ0 hS.1
  have hown : (Γ.s.setVm vm0).vm.findClass own = some Γ.m.cls := by rw [show (Γ.s.setVm vm0).vm = vm0 from rfl, hS.1.alike.findClass]; exact hown0
  exact Go.of (fun t k => X.checkcastNull hx (g := mkF Γ.m pc Ls (.null :: st)) rfl rfl (hb hby hd) t k) K
theorem selP {a0 : Array Value} {y : MethodName} {n : Nat} (wi : (Cond.instantiable y.cls n).before a0 Z = true) (wp : (Cond.privateMethod y).before a0 Z = true) (w2 : (Cond.instanceMethod y).before a0 Z = true) (hy : y.cls ≠ "java/lang/invoke/MethodHandle" ∧ y.cls ≠ "java/lang/invoke/VarHandle") : (Cond.selects y.cls y y).before a0 Z = true := by
  obtain ⟨t, kt, g0, g1, g2, gr⟩ := Cond.instantiable_spec wi
  have gi : kt.isInterface = false := by have := gr.1; simp at this; exact this.1
  exact Jvm.Stand.selects_self_of_private g0 g1 gi (Cond.privateMethod_at wp) w2 hy
theorem selQ {a0 : Array Value} {y : MethodName} {CC : String} (ws : (Cond.selects CC y y).before a0 Z = true) (wp : (Cond.privateMethod y).before a0 Z = true) (w2 : (Cond.instanceMethod y).before a0 Z = true) (hy : y.cls ≠ "java/lang/invoke/MethodHandle" ∧ y.cls ≠ "java/lang/invoke/VarHandle") : (Cond.selects y.cls y y).before a0 Z = true := by
  obtain ⟨r0, meth, h0, -, -, -⟩ := Cond.instanceMethod_spec w2
  obtain ⟨kr, k1, k2⟩ := notFace_of_selects ws r0 h0
  exact Jvm.Stand.selects_self_of_private (findClass_of_methodNamed h0) k1 k2 (Cond.privateMethod_at wp) w2 hy
theorem smD {a0 : Array Value} {y : MethodName} (w2 : (Cond.instanceMethod y).before a0 Z = true) (nf : NotFace Z y) (hy : y.cls ≠ "java/lang/invoke/MethodHandle" ∧ y.cls ≠ "java/lang/invoke/VarHandle") : (Cond.sameMethod y.cls y.cls y.name y.desc).before a0 Z = true := by
  obtain ⟨r0, meth, h0, -, -, -⟩ := Cond.instanceMethod_spec w2
  obtain ⟨kr, k1, k2⟩ := nf r0 h0
  have h1 := findClass_of_methodNamed h0
  have h2 := State.methodFound?_of_named h0 hy
  simp [Cond.before, Cond.holds, Cond.value, h1, h2, h0, k1, k2]
theorem nf_sib {a0 : Array Value} {CC : String} {y y' : MethodName} (w3 : (Cond.selects CC y' y').before a0 Z = true) (w4 : (Cond.instanceMethod y').before a0 Z = true) (e : y'.cls = y.cls) : ∀ s : State, Z.Warmed39 s.vm → NotFace s y := fun s hZ r0 h0 => by
  obtain ⟨r1, meth, h1, -, -, -⟩ := Cond.instanceMethod_spec (mvT (args := #[]) hZ w4)
  obtain ⟨kr, k1, k2⟩ := notFace_of_selects (args := #[]) (mvT hZ w3) r1 h1
  have := Option.some.inj ((findClass_of_methodNamed h0).symm.trans (e ▸ findClass_of_methodNamed h1))
  exact ⟨kr, by rw [this]; exact k1, k2⟩
theorem Hd.later {Γ : Cx} {vm vm1 : Vm} {h h' : Heap} {sf : List Addr} (H : Hd Γ vm h sf) (c : CHr Γ.Z Γ.EL vm h vm1 h') : Hd Γ vm1 h' sf := ⟨H.1.trans c, fun x m => ⟨Nat.lt_of_lt_of_le (H.2 x m).1 c.2.1, c.safe (H.2 x m).1 (H.2 x m).2⟩⟩
theorem k_ldcH {a0 : Array Value} {idx n : Nat} {text : String} {vs : List Int32} {z : Int32} (G : Ctx Γ Z EL own bytes maxl ret nm rm hs0) (X : W Γ n0 T h C S sf) (w : (Cond.stringLink own idx text).before a0 Z = true) (wS : ∀ a ∈ Bundle.stringAtoms, a.before a0 Z = true) (hmem : (own, idx) ∈ EL) (ht : (∀ c ∈ text.toList, c.toNat < 256) ∧ text.toList.map (fun c => Value.int (Jvm.Lit.byteI c.toNat.toUInt16)) = vs.map Value.int) (hz : z.toInt = vs.length) (hd : decode bytes pc = .ok (.ldc idx, 2)) (hp : pc + 2 = pc') (hn : 4 * text.toList.length ≤ n) (hbig : n ≤ 536870912) (hc : C + 2 ≤ rm.cells) (hs : S + (n + 4) ≤ rm.slots) (K : ∀ T h' a b k, Ext h h' → Exa Z h' a "java/lang/String" → Fld Z h' a "java/lang/String" "coder" "B" (.int 0) → Fld Z h' a "java/lang/String" "value" "[B" (.ref b) → Arf Z h' b k .byte vs.length (fun i => .int (vs.getD i 0)) → (∀ x ∈ sf, x ≠ a ∧ x ≠ b) → W Γ n0 T h' (C + 2) (S + (n + 4)) sf → Go Γ n0 Q T (mkF Γ.m pc' Ls (.ref a :: st))) : Go Γ n0 Q T (mkF Γ.m pc Ls st) := by
  subst hp
  obtain ⟨hx, hZ0, hown0, hby, hml, hret, hnm, hlk, hR, hsH, hzz, hel, hew⟩ := G
  subst hzz hel
  obtain ⟨aw, hew⟩ := hew
  obtain ⟨L, vm0, k0, X, e, N, hS, hk, HD⟩ := X
  have hZ : Γ.Z.Warmed39 (Γ.s.setVm vm0).vm := State.Warmed39.trans hZ0 hS.1
  have hown : (Γ.s.setVm vm0).vm.findClass own = some Γ.m.cls := by rw [show (Γ.s.setVm vm0).vm = vm0 from rfl, hS.1.alike.findClass]; exact hown0
  obtain ⟨a, T', h', k1, b, k, X', e', E', hS', hk', -, -, F1, F2, F3, F4, -, -, c1, -, hne, st'⟩ := ldcCH X hx hZ hown w wS e hS hk hew hmem HD.1.1 ht (idx_of hz).1 (by rw [(idx_of hz).2, List.length_map]) (g := mkF Γ.m pc Ls st) rfl (hb hby hd) hn hbig (hR ▸ hc) (hR ▸ hs)
  exact Go.of st' (K T' h' a b k E' F1 F2 F3 (Arf.of_arv F4 hz fun i hi => by rw [List.getD_eq_getElem?_getD, List.getD_eq_getElem?_getD, List.getElem?_map]; cases vs[i]? <;> rfl) (fun x m => hne x ((HD.later c1).2 x m).2) ⟨L, T'.vm, k1, X', e', N, hS', hk', HD.later c1⟩)
/-! ### facts -/
theorem W.eq {h' : Heap} (X : W Γ n0 T h' C S sf) (e : h' = h) : W Γ n0 T h C S sf := e ▸ X
theorem Old_le (O : Old Z n0 h) : n0 ≤ h.size := by rw [← O.1]; exact O.2.1
theorem Sta_keep {h' : Heap} {CC n d : String} {v : Value} (F : Sta Z h CC n d v) (K : Keep h h' []) : Sta Z h' CC n d v := by
  obtain ⟨cf, i, k, f, st, cell, h1, h2, h3, h4, h5, h6, h7⟩ := F
  exact ⟨cf, i, k, f, st, cell, h1, h2, h3, h4, K.2.1 _ _ h5 nin0, h6, h7⟩
def Pln (h : Heap) (a : Addr) : Prop := ∀ cell : Cell, h[a]? = some cell → cell.vm.isStatics = false
theorem Pln_exa {a : Addr} {CC : String} (E : Exa Z h a CC) : Pln h a := fun cell hc => by obtain ⟨c1, _, h1, -, -, h4, -⟩ := E; cases h1.symm.trans hc; exact h4
theorem Sta_keepL {h' : Heap} {CC n d : String} {v : Value} {ws : List Addr} (F : Sta Z h CC n d v) (K : Keep h h' ws) (q : ∀ w ∈ ws, Pln h w) : Sta Z h' CC n d v := by
  obtain ⟨cf, i, k, f, st, cell, h1, h2, h3, h4, h5, h6, h7⟩ := F
  exact ⟨cf, i, k, f, st, cell, h1, h2, h3, h4, K.2.1 _ _ h5 (fun hm => by have := q _ hm _ h5; rw [h6] at this; cases this), h6, h7⟩
end K
section Words
variable {s : State} {args : Array Value}
theorem len_none {t : Term} {x : Addr} {cl : Cell} {first : State} {o : Option Outcome} {idx : List Nat} (ht : t.eval args first o idx s = some (.ref x)) (ha : s.arrayAt? x = some cl) (hl : ¬ cl.slots.size < 2 ^ 31) : (Term.length t).eval args first o idx s = none := by simp [Term.eval, ht, ha, hl]
theorem s_cs {CC n d : String} (h0 : (Cond.initializedFor CC n d).before args s = true) (h1 : (Cond.isInt (Term.static CC n d)).before args s = true) (h2 : (Cond.not (Cond.eq (Term.static CC n d) (Term.int 0))).before args s = true) : ∃ cs : Int32, Sta s s.heap CC n d (.int cs) ∧ cs ≠ 0 := by
  obtain ⟨x, ev⟩ := is_v (Cond.before_iff.mp h1)
  refine ⟨x, Sta.start ev (Or.inl h0), fun q => ?_⟩
  have := not_v (Cond.before_iff.mp h2)
  subst q
  rw [eq_i ev (Term.int_eval 0) rfl] at this
  cases this
end Words
theorem of_toInt {z w : Int32} (h : z.toInt = w.toInt) : z = w := Int32.toInt_inj.mp h
theorem rgI (x : Int32) : -2147483648 ≤ x.toInt ∧ x.toInt < 2147483648 := ⟨Int32.le_toInt x, Int32.toInt_lt x⟩
theorem rgL (x : Int64) : -9223372036854775808 ≤ x.toInt ∧ x.toInt < 9223372036854775808 := ⟨Int64.le_toInt x, Int64.toInt_lt x⟩
theorem and_rng (x : Int32) {m : Int32} (k : Int) (hk : m.toInt = k) (h : 0 ≤ k) : 0 ≤ (x &&& m).toInt ∧ (x &&& m).toInt ≤ k := by subst hk; exact c_and x m h
theorem rem_rng (x : Int32) {y : Int32} (d : Int) (hy : y.toInt = d) (hd : 0 < d) (hx : 0 ≤ x.toInt) : 0 ≤ (x % y).toInt ∧ (x % y).toInt < d := by
  rw [(c_irem x y d hy).1 hx]; exact ⟨Int.emod_nonneg _ (by omega), Int.emod_lt_of_pos _ hd⟩
theorem iadd_toInt {x y : Int32} (h1 : -2147483648 ≤ x.toInt + y.toInt) (h2 : x.toInt + y.toInt < 2147483648) : (x + y).toInt = x.toInt + y.toInt := by
  have := c_iadd x y; have := rgI (x + y); omega
theorem isub_toInt {x y : Int32} (h1 : -2147483648 ≤ x.toInt - y.toInt) (h2 : x.toInt - y.toInt < 2147483648) : (x - y).toInt = x.toInt - y.toInt := by
  have := c_isub x y; have := rgI (x - y); omega
theorem lcmp_toInt {x y : Int64} {z : Int32} (q : (if x > y then (1 : Int32) else if x = y then 0 else -1) = z) : (x.toInt < y.toInt → z.toInt = -1) ∧ (x.toInt = y.toInt → z.toInt = 0) ∧ (y.toInt < x.toInt → z.toInt = 1) := by
  subst q; exact c_lcmp x y
end Jvm.OwnK
namespace Jvm.Pilot.@@N@@
open Jvm Jvm.ClassFile Sem Op Lib Jvm.Free Jvm.Stand Jvm.LawKit Jvm.RoadKit Jvm.OwnK Bundle Jvm.Pilot.@@N@@.Jvm.D
abbrev HW (a0 : Array Value) (Z : State) : Prop := ∀ d ∈ tables_1, d.before a0 Z = true
section Wds
variable {a0 : Array Value} {Z : State}
theorem w0 (hw : HW a0 Z) : Jvm.Cond.before (Jvm.Cond.classLink "com/example/half_message_commit/halfmessagecommit/protocol/JsonWriterBeginObjectPinLaw" (7 : Nat) "com/example/half_message_commit/halfmessagecommit/protocol/JsonWriter") a0 Z = true := hw _ (List.mem_of_getElem? (i := 0) rfl)
theorem w1 (hw : HW a0 Z) : Jvm.Cond.before (Jvm.Cond.instantiable "com/example/half_message_commit/halfmessagecommit/protocol/JsonWriter" (1 : Nat)) a0 Z = true := hw _ (List.mem_of_getElem? (i := 1) rfl)
theorem w2 (hw : HW a0 Z) : Jvm.Cond.before (Jvm.Cond.initialized "com/example/half_message_commit/halfmessagecommit/protocol/JsonWriter") a0 Z = true := hw _ (List.mem_of_getElem? (i := 2) rfl)
theorem w3 (hw : HW a0 Z) : Jvm.Cond.before (Jvm.Cond.constantLong "com/example/half_message_commit/halfmessagecommit/protocol/JsonWriterBeginObjectPinLaw" (9 : Nat) (65535 : Int64)) a0 Z = true := hw _ (List.mem_of_getElem? (i := 3) rfl)
theorem w4 (hw : HW a0 Z) : Jvm.Cond.before (Jvm.Cond.methodLink "com/example/half_message_commit/halfmessagecommit/protocol/JsonWriterBeginObjectPinLaw" (11 : Nat) ({ cls := "com/example/half_message_commit/halfmessagecommit/protocol/JsonWriter", name := "<init>", desc := "(J)V" } : Jvm.MethodName)) a0 Z = true := hw _ (List.mem_of_getElem? (i := 4) rfl)
theorem w5 (hw : HW a0 Z) : Jvm.Cond.before (Jvm.Cond.instanceMethod ({ cls := "com/example/half_message_commit/halfmessagecommit/protocol/JsonWriter", name := "<init>", desc := "(J)V" } : Jvm.MethodName)) a0 Z = true := hw _ (List.mem_of_getElem? (i := 5) rfl)
theorem w6 (hw : HW a0 Z) : Jvm.Cond.before (Jvm.Cond.code ({ cls := "com/example/half_message_commit/halfmessagecommit/protocol/JsonWriter", name := "<init>", desc := "(J)V" } : Jvm.MethodName) prog_24_method_2_code (3 : Nat) (Option.none : Option Jvm.ClassFile.FieldType)) a0 Z = true := hw _ (List.mem_of_getElem? (i := 6) rfl)
theorem w7 (hw : HW a0 Z) : Jvm.Cond.before (Jvm.Cond.methodLink "com/example/half_message_commit/halfmessagecommit/protocol/JsonWriter" (11 : Nat) ({ cls := "java/lang/Object", name := "<init>", desc := "()V" } : Jvm.MethodName)) a0 Z = true := hw _ (List.mem_of_getElem? (i := 7) rfl)
theorem w8 (hw : HW a0 Z) : Jvm.Cond.before (Jvm.Cond.instanceMethod ({ cls := "java/lang/Object", name := "<init>", desc := "()V" } : Jvm.MethodName)) a0 Z = true := hw _ (List.mem_of_getElem? (i := 8) rfl)
theorem w9 (hw : HW a0 Z) : Jvm.Cond.before (Jvm.Cond.code ({ cls := "java/lang/Object", name := "<init>", desc := "()V" } : Jvm.MethodName) object_method_1_code (1 : Nat) (Option.none : Option Jvm.ClassFile.FieldType)) a0 Z = true := hw _ (List.mem_of_getElem? (i := 9) rfl)
theorem w10 (hw : HW a0 Z) : Jvm.Cond.before (Jvm.Cond.classLink "com/example/half_message_commit/halfmessagecommit/protocol/JsonWriter" (16 : Nat) "java/lang/StringBuilder") a0 Z = true := hw _ (List.mem_of_getElem? (i := 10) rfl)
theorem w11 (hw : HW a0 Z) : Jvm.Cond.before (Jvm.Cond.instantiable "java/lang/StringBuilder" (4 : Nat)) a0 Z = true := hw _ (List.mem_of_getElem? (i := 11) rfl)
theorem w12 (hw : HW a0 Z) : Jvm.Cond.before (Jvm.Cond.initialized "java/lang/StringBuilder") a0 Z = true := hw _ (List.mem_of_getElem? (i := 12) rfl)
theorem w13 (hw : HW a0 Z) : Jvm.Cond.before (Jvm.Cond.constantLong "com/example/half_message_commit/halfmessagecommit/protocol/JsonWriter" (18 : Nat) (2147483639 : Int64)) a0 Z = true := hw _ (List.mem_of_getElem? (i := 13) rfl)
theorem w14 (hw : HW a0 Z) : Jvm.Cond.before (Jvm.Cond.methodLink "com/example/half_message_commit/halfmessagecommit/protocol/JsonWriter" (20 : Nat) ({ cls := "java/lang/Math", name := "min", desc := "(JJ)J" } : Jvm.MethodName)) a0 Z = true := hw _ (List.mem_of_getElem? (i := 14) rfl)
theorem w15 (hw : HW a0 Z) : Jvm.Cond.before (Jvm.Cond.static ({ cls := "java/lang/Math", name := "min", desc := "(JJ)J" } : Jvm.MethodName)) a0 Z = true := hw _ (List.mem_of_getElem? (i := 15) rfl)
theorem w16 (hw : HW a0 Z) : Jvm.Cond.before (Jvm.Cond.initialized "java/lang/Math") a0 Z = true := hw _ (List.mem_of_getElem? (i := 16) rfl)
theorem w17 (hw : HW a0 Z) : Jvm.Cond.before (Jvm.Cond.code ({ cls := "java/lang/Math", name := "min", desc := "(JJ)J" } : Jvm.MethodName) jdk_29_method_70_code (4 : Nat) (Option.some Jvm.ClassFile.FieldType.long)) a0 Z = true := hw _ (List.mem_of_getElem? (i := 17) rfl)
theorem w18 (hw : HW a0 Z) : Jvm.Cond.before (Jvm.Cond.methodLink "com/example/half_message_commit/halfmessagecommit/protocol/JsonWriter" (26 : Nat) ({ cls := "java/lang/StringBuilder", name := "<init>", desc := "(I)V" } : Jvm.MethodName)) a0 Z = true := hw _ (List.mem_of_getElem? (i := 18) rfl)
theorem w19 (hw : HW a0 Z) : Jvm.Cond.before (Jvm.Cond.instanceMethod ({ cls := "java/lang/StringBuilder", name := "<init>", desc := "(I)V" } : Jvm.MethodName)) a0 Z = true := hw _ (List.mem_of_getElem? (i := 19) rfl)
theorem w20 (hw : HW a0 Z) : Jvm.Cond.before (Jvm.Cond.code ({ cls := "java/lang/StringBuilder", name := "<init>", desc := "(I)V" } : Jvm.MethodName) jdk_67_method_2_code (2 : Nat) (Option.none : Option Jvm.ClassFile.FieldType)) a0 Z = true := hw _ (List.mem_of_getElem? (i := 20) rfl)
theorem w21 (hw : HW a0 Z) : Jvm.Cond.before (Jvm.Cond.methodLink "java/lang/StringBuilder" (1 : Nat) ({ cls := "java/lang/AbstractStringBuilder", name := "<init>", desc := "(I)V" } : Jvm.MethodName)) a0 Z = true := hw _ (List.mem_of_getElem? (i := 21) rfl)
theorem w22 (hw : HW a0 Z) : Jvm.Cond.before (Jvm.Cond.instanceMethod ({ cls := "java/lang/AbstractStringBuilder", name := "<init>", desc := "(I)V" } : Jvm.MethodName)) a0 Z = true := hw _ (List.mem_of_getElem? (i := 22) rfl)
theorem w25 (hw : HW a0 Z) : Jvm.Cond.before (Jvm.Cond.initialized "java/lang/AbstractStringBuilder") a0 Z = true := hw _ (List.mem_of_getElem? (i := 25) rfl)
theorem w26 (hw : HW a0 Z) : Jvm.Cond.before (Jvm.Cond.code ({ cls := "java/lang/AbstractStringBuilder", name := "<init>", desc := "(I)V" } : Jvm.MethodName) jdk_68_method_2_code (2 : Nat) (Option.none : Option Jvm.ClassFile.FieldType)) a0 Z = true := hw _ (List.mem_of_getElem? (i := 26) rfl)
theorem w27 (hw : HW a0 Z) : Jvm.Cond.before (Jvm.Cond.methodLink "java/lang/AbstractStringBuilder" (3 : Nat) ({ cls := "java/lang/Object", name := "<init>", desc := "()V" } : Jvm.MethodName)) a0 Z = true := hw _ (List.mem_of_getElem? (i := 27) rfl)
theorem w28 (hw : HW a0 Z) : Jvm.Cond.before (Jvm.Cond.fieldLink "java/lang/AbstractStringBuilder" (18 : Nat) "java/lang/String" "COMPACT_STRINGS" "Z") a0 Z = true := hw _ (List.mem_of_getElem? (i := 28) rfl)
theorem w29 (hw : HW a0 Z) : Jvm.Cond.before (Jvm.Cond.initialized "java/lang/String") a0 Z = true := hw _ (List.mem_of_getElem? (i := 29) rfl)
theorem w30 (hw : HW a0 Z) : Jvm.Cond.before (Jvm.Cond.arrayClass Jvm.ClassFile.FieldType.byte) a0 Z = true := hw _ (List.mem_of_getElem? (i := 30) rfl)
theorem w31 (hw : HW a0 Z) : Jvm.Cond.before (Jvm.Cond.fieldLink "java/lang/AbstractStringBuilder" (15 : Nat) "java/lang/AbstractStringBuilder" "value" "[B") a0 Z = true := hw _ (List.mem_of_getElem? (i := 31) rfl)
theorem w32 (hw : HW a0 Z) : Jvm.Cond.before (Jvm.Cond.lays "java/lang/StringBuilder" "java/lang/AbstractStringBuilder" "value" "[B") a0 Z = true := hw _ (List.mem_of_getElem? (i := 32) rfl)
theorem w33 (hw : HW a0 Z) : Jvm.Cond.before (Jvm.Cond.fieldLink "java/lang/AbstractStringBuilder" (22 : Nat) "java/lang/AbstractStringBuilder" "coder" "B") a0 Z = true := hw _ (List.mem_of_getElem? (i := 33) rfl)
theorem w34 (hw : HW a0 Z) : Jvm.Cond.before (Jvm.Cond.lays "java/lang/StringBuilder" "java/lang/AbstractStringBuilder" "coder" "B") a0 Z = true := hw _ (List.mem_of_getElem? (i := 34) rfl)
theorem w35 (hw : HW a0 Z) : Jvm.Cond.before (Jvm.Cond.fieldLink "com/example/half_message_commit/halfmessagecommit/protocol/JsonWriter" (29 : Nat) "com/example/half_message_commit/halfmessagecommit/protocol/JsonWriter" "text" "Ljava/lang/StringBuilder;") a0 Z = true := hw _ (List.mem_of_getElem? (i := 35) rfl)
theorem w36 (hw : HW a0 Z) : Jvm.Cond.before (Jvm.Cond.laysFinal "com/example/half_message_commit/halfmessagecommit/protocol/JsonWriter" "com/example/half_message_commit/halfmessagecommit/protocol/JsonWriter" "text" "Ljava/lang/StringBuilder;") a0 Z = true := hw _ (List.mem_of_getElem? (i := 36) rfl)
theorem w37 (hw : HW a0 Z) : Jvm.Cond.before (Jvm.Cond.constant "com/example/half_message_commit/halfmessagecommit/protocol/JsonWriterBeginObjectPinLaw" (14 : Nat) (2147483647 : Int32)) a0 Z = true := hw _ (List.mem_of_getElem? (i := 37) rfl)
theorem w38 (hw : HW a0 Z) : Jvm.Cond.before (Jvm.Cond.methodLink "com/example/half_message_commit/halfmessagecommit/protocol/JsonWriterBeginObjectPinLaw" (15 : Nat) ({ cls := "com/example/half_message_commit/halfmessagecommit/protocol/JsonWriter", name := "beginObject", desc := "()V" } : Jvm.MethodName)) a0 Z = true := hw _ (List.mem_of_getElem? (i := 38) rfl)
theorem w39 (hw : HW a0 Z) : Jvm.Cond.before (Jvm.Cond.declares ({ cls := "com/example/half_message_commit/halfmessagecommit/protocol/JsonWriter", name := "beginObject", desc := "()V" } : Jvm.MethodName)) a0 Z = true := hw _ (List.mem_of_getElem? (i := 39) rfl)
theorem w40 (hw : HW a0 Z) : Jvm.Cond.before (Jvm.Cond.instanceMethod ({ cls := "com/example/half_message_commit/halfmessagecommit/protocol/JsonWriter", name := "beginObject", desc := "()V" } : Jvm.MethodName)) a0 Z = true := hw _ (List.mem_of_getElem? (i := 40) rfl)
theorem w41 (hw : HW a0 Z) : Jvm.Cond.before (Jvm.Cond.selects "com/example/half_message_commit/halfmessagecommit/protocol/JsonWriter" ({ cls := "com/example/half_message_commit/halfmessagecommit/protocol/JsonWriter", name := "beginObject", desc := "()V" } : Jvm.MethodName) ({ cls := "com/example/half_message_commit/halfmessagecommit/protocol/JsonWriter", name := "beginObject", desc := "()V" } : Jvm.MethodName)) a0 Z = true := hw _ (List.mem_of_getElem? (i := 41) rfl)
theorem w42 (hw : HW a0 Z) : Jvm.Cond.before (Jvm.Cond.code ({ cls := "com/example/half_message_commit/halfmessagecommit/protocol/JsonWriter", name := "beginObject", desc := "()V" } : Jvm.MethodName) prog_24_method_3_code (1 : Nat) (Option.none : Option Jvm.ClassFile.FieldType)) a0 Z = true := hw _ (List.mem_of_getElem? (i := 42) rfl)
theorem w43 (hw : HW a0 Z) : Jvm.Cond.before (Jvm.Cond.methodLink "com/example/half_message_commit/halfmessagecommit/protocol/JsonWriter" (33 : Nat) ({ cls := "com/example/half_message_commit/halfmessagecommit/protocol/JsonWriter", name := "separate", desc := "()V" } : Jvm.MethodName)) a0 Z = true := hw _ (List.mem_of_getElem? (i := 43) rfl)
theorem w44 (hw : HW a0 Z) : Jvm.Cond.before (Jvm.Cond.instanceMethod ({ cls := "com/example/half_message_commit/halfmessagecommit/protocol/JsonWriter", name := "separate", desc := "()V" } : Jvm.MethodName)) a0 Z = true := hw _ (List.mem_of_getElem? (i := 44) rfl)
theorem w45 (hw : HW a0 Z) : Jvm.Cond.before (Jvm.Cond.privateMethod ({ cls := "com/example/half_message_commit/halfmessagecommit/protocol/JsonWriter", name := "separate", desc := "()V" } : Jvm.MethodName)) a0 Z = true := hw _ (List.mem_of_getElem? (i := 45) rfl)
theorem w46 (hw : HW a0 Z) : Jvm.Cond.before (Jvm.Cond.code ({ cls := "com/example/half_message_commit/halfmessagecommit/protocol/JsonWriter", name := "separate", desc := "()V" } : Jvm.MethodName) prog_24_method_12_code (2 : Nat) (Option.none : Option Jvm.ClassFile.FieldType)) a0 Z = true := hw _ (List.mem_of_getElem? (i := 46) rfl)
theorem w47 (hw : HW a0 Z) : Jvm.Cond.before (Jvm.Cond.methodLink "com/example/half_message_commit/halfmessagecommit/protocol/JsonWriter" (62 : Nat) ({ cls := "java/lang/StringBuilder", name := "length", desc := "()I" } : Jvm.MethodName)) a0 Z = true := hw _ (List.mem_of_getElem? (i := 47) rfl)
theorem w48 (hw : HW a0 Z) : Jvm.Cond.before (Jvm.Cond.declares ({ cls := "java/lang/StringBuilder", name := "length", desc := "()I" } : Jvm.MethodName)) a0 Z = true := hw _ (List.mem_of_getElem? (i := 48) rfl)
theorem w49 (hw : HW a0 Z) : Jvm.Cond.before (Jvm.Cond.instanceMethod ({ cls := "java/lang/StringBuilder", name := "length", desc := "()I" } : Jvm.MethodName)) a0 Z = true := hw _ (List.mem_of_getElem? (i := 49) rfl)
theorem w50 (hw : HW a0 Z) : Jvm.Cond.before (Jvm.Cond.selects "java/lang/StringBuilder" ({ cls := "java/lang/StringBuilder", name := "length", desc := "()I" } : Jvm.MethodName) ({ cls := "java/lang/StringBuilder", name := "length", desc := "()I" } : Jvm.MethodName)) a0 Z = true := hw _ (List.mem_of_getElem? (i := 50) rfl)
theorem w51 (hw : HW a0 Z) : Jvm.Cond.before (Jvm.Cond.code ({ cls := "java/lang/StringBuilder", name := "length", desc := "()I" } : Jvm.MethodName) jdk_67_method_93_code (1 : Nat) (Option.some Jvm.ClassFile.FieldType.int)) a0 Z = true := hw _ (List.mem_of_getElem? (i := 51) rfl)
theorem w52 (hw : HW a0 Z) : Jvm.Cond.before (Jvm.Cond.methodLink "java/lang/StringBuilder" (343 : Nat) ({ cls := "java/lang/AbstractStringBuilder", name := "length", desc := "()I" } : Jvm.MethodName)) a0 Z = true := hw _ (List.mem_of_getElem? (i := 52) rfl)
theorem w53 (hw : HW a0 Z) : Jvm.Cond.before (Jvm.Cond.instanceMethod ({ cls := "java/lang/AbstractStringBuilder", name := "length", desc := "()I" } : Jvm.MethodName)) a0 Z = true := hw _ (List.mem_of_getElem? (i := 53) rfl)
theorem w54 (hw : HW a0 Z) : Jvm.Cond.before (Jvm.Cond.superclass "java/lang/StringBuilder" "java/lang/AbstractStringBuilder") a0 Z = true := hw _ (List.mem_of_getElem? (i := 54) rfl)
theorem w55 (hw : HW a0 Z) : Jvm.Cond.before (Jvm.Cond.declares ({ cls := "java/lang/AbstractStringBuilder", name := "length", desc := "()I" } : Jvm.MethodName)) a0 Z = true := hw _ (List.mem_of_getElem? (i := 55) rfl)
theorem w56 (hw : HW a0 Z) : Jvm.Cond.before (Jvm.Cond.code ({ cls := "java/lang/AbstractStringBuilder", name := "length", desc := "()I" } : Jvm.MethodName) jdk_68_method_6_code (1 : Nat) (Option.some Jvm.ClassFile.FieldType.int)) a0 Z = true := hw _ (List.mem_of_getElem? (i := 56) rfl)
theorem w57 (hw : HW a0 Z) : Jvm.Cond.before (Jvm.Cond.fieldLink "java/lang/AbstractStringBuilder" (79 : Nat) "java/lang/AbstractStringBuilder" "count" "I") a0 Z = true := hw _ (List.mem_of_getElem? (i := 57) rfl)
theorem w58 (hw : HW a0 Z) : Jvm.Cond.before (Jvm.Cond.lays "java/lang/StringBuilder" "java/lang/AbstractStringBuilder" "count" "I") a0 Z = true := hw _ (List.mem_of_getElem? (i := 58) rfl)
theorem w59 (hw : HW a0 Z) : Jvm.Cond.before (Jvm.Cond.methodLink "com/example/half_message_commit/halfmessagecommit/protocol/JsonWriter" (36 : Nat) ({ cls := "java/lang/StringBuilder", name := "append", desc := "(C)Ljava/lang/StringBuilder;" } : Jvm.MethodName)) a0 Z = true := hw _ (List.mem_of_getElem? (i := 59) rfl)
theorem w60 (hw : HW a0 Z) : Jvm.Cond.before (Jvm.Cond.declares ({ cls := "java/lang/StringBuilder", name := "append", desc := "(C)Ljava/lang/StringBuilder;" } : Jvm.MethodName)) a0 Z = true := hw _ (List.mem_of_getElem? (i := 60) rfl)
theorem w61 (hw : HW a0 Z) : Jvm.Cond.before (Jvm.Cond.instanceMethod ({ cls := "java/lang/StringBuilder", name := "append", desc := "(C)Ljava/lang/StringBuilder;" } : Jvm.MethodName)) a0 Z = true := hw _ (List.mem_of_getElem? (i := 61) rfl)
theorem w62 (hw : HW a0 Z) : Jvm.Cond.before (Jvm.Cond.selects "java/lang/StringBuilder" ({ cls := "java/lang/StringBuilder", name := "append", desc := "(C)Ljava/lang/StringBuilder;" } : Jvm.MethodName) ({ cls := "java/lang/StringBuilder", name := "append", desc := "(C)Ljava/lang/StringBuilder;" } : Jvm.MethodName)) a0 Z = true := hw _ (List.mem_of_getElem? (i := 62) rfl)
theorem w63 (hw : HW a0 Z) : Jvm.Cond.before (Jvm.Cond.code ({ cls := "java/lang/StringBuilder", name := "append", desc := "(C)Ljava/lang/StringBuilder;" } : Jvm.MethodName) jdk_67_method_14_code (2 : Nat) (Option.some (Jvm.ClassFile.FieldType.object "java/lang/StringBuilder"))) a0 Z = true := hw _ (List.mem_of_getElem? (i := 63) rfl)
theorem w64 (hw : HW a0 Z) : Jvm.Cond.before (Jvm.Cond.methodLink "java/lang/StringBuilder" (50 : Nat) ({ cls := "java/lang/AbstractStringBuilder", name := "append", desc := "(C)Ljava/lang/AbstractStringBuilder;" } : Jvm.MethodName)) a0 Z = true := hw _ (List.mem_of_getElem? (i := 64) rfl)
theorem w65 (hw : HW a0 Z) : Jvm.Cond.before (Jvm.Cond.instanceMethod ({ cls := "java/lang/AbstractStringBuilder", name := "append", desc := "(C)Ljava/lang/AbstractStringBuilder;" } : Jvm.MethodName)) a0 Z = true := hw _ (List.mem_of_getElem? (i := 65) rfl)
theorem w67 (hw : HW a0 Z) : Jvm.Cond.before (Jvm.Cond.code ({ cls := "java/lang/AbstractStringBuilder", name := "append", desc := "(C)Ljava/lang/AbstractStringBuilder;" } : Jvm.MethodName) jdk_68_method_31_code (2 : Nat) (Option.some (Jvm.ClassFile.FieldType.object "java/lang/AbstractStringBuilder"))) a0 Z = true := hw _ (List.mem_of_getElem? (i := 67) rfl)
theorem w68 (hw : HW a0 Z) : Jvm.Cond.before (Jvm.Cond.methodLink "java/lang/AbstractStringBuilder" (100 : Nat) ({ cls := "java/lang/AbstractStringBuilder", name := "ensureCapacityInternal", desc := "(I)V" } : Jvm.MethodName)) a0 Z = true := hw _ (List.mem_of_getElem? (i := 68) rfl)
theorem w69 (hw : HW a0 Z) : Jvm.Cond.before (Jvm.Cond.instanceMethod ({ cls := "java/lang/AbstractStringBuilder", name := "ensureCapacityInternal", desc := "(I)V" } : Jvm.MethodName)) a0 Z = true := hw _ (List.mem_of_getElem? (i := 69) rfl)
theorem w70 (hw : HW a0 Z) : Jvm.Cond.before (Jvm.Cond.privateMethod ({ cls := "java/lang/AbstractStringBuilder", name := "ensureCapacityInternal", desc := "(I)V" } : Jvm.MethodName)) a0 Z = true := hw _ (List.mem_of_getElem? (i := 70) rfl)
theorem w71 (hw : HW a0 Z) : Jvm.Cond.before (Jvm.Cond.selects "java/lang/StringBuilder" ({ cls := "java/lang/AbstractStringBuilder", name := "ensureCapacityInternal", desc := "(I)V" } : Jvm.MethodName) ({ cls := "java/lang/AbstractStringBuilder", name := "ensureCapacityInternal", desc := "(I)V" } : Jvm.MethodName)) a0 Z = true := hw _ (List.mem_of_getElem? (i := 71) rfl)
theorem w72 (hw : HW a0 Z) : Jvm.Cond.before (Jvm.Cond.code ({ cls := "java/lang/AbstractStringBuilder", name := "ensureCapacityInternal", desc := "(I)V" } : Jvm.MethodName) jdk_68_method_9_code (3 : Nat) (Option.none : Option Jvm.ClassFile.FieldType)) a0 Z = true := hw _ (List.mem_of_getElem? (i := 72) rfl)
theorem w73 (hw : HW a0 Z) : Jvm.Cond.before (Jvm.Cond.methodLink "java/lang/AbstractStringBuilder" (83 : Nat) ({ cls := "java/lang/AbstractStringBuilder", name := "isLatin1", desc := "()Z" } : Jvm.MethodName)) a0 Z = true := hw _ (List.mem_of_getElem? (i := 73) rfl)
theorem w74 (hw : HW a0 Z) : Jvm.Cond.before (Jvm.Cond.declares ({ cls := "java/lang/AbstractStringBuilder", name := "isLatin1", desc := "()Z" } : Jvm.MethodName)) a0 Z = true := hw _ (List.mem_of_getElem? (i := 74) rfl)
theorem w75 (hw : HW a0 Z) : Jvm.Cond.before (Jvm.Cond.instanceMethod ({ cls := "java/lang/AbstractStringBuilder", name := "isLatin1", desc := "()Z" } : Jvm.MethodName)) a0 Z = true := hw _ (List.mem_of_getElem? (i := 75) rfl)
theorem w76 (hw : HW a0 Z) : Jvm.Cond.before (Jvm.Cond.selects "java/lang/StringBuilder" ({ cls := "java/lang/AbstractStringBuilder", name := "isLatin1", desc := "()Z" } : Jvm.MethodName) ({ cls := "java/lang/AbstractStringBuilder", name := "isLatin1", desc := "()Z" } : Jvm.MethodName)) a0 Z = true := hw _ (List.mem_of_getElem? (i := 76) rfl)
theorem w77 (hw : HW a0 Z) : Jvm.Cond.before (Jvm.Cond.code ({ cls := "java/lang/AbstractStringBuilder", name := "isLatin1", desc := "()Z" } : Jvm.MethodName) jdk_68_method_68_code (1 : Nat) (Option.some Jvm.ClassFile.FieldType.boolean)) a0 Z = true := hw _ (List.mem_of_getElem? (i := 77) rfl)
theorem w78 (hw : HW a0 Z) : Jvm.Cond.before (Jvm.Cond.methodLink "java/lang/AbstractStringBuilder" (191 : Nat) ({ cls := "java/lang/StringLatin1", name := "canEncode", desc := "(C)Z" } : Jvm.MethodName)) a0 Z = true := hw _ (List.mem_of_getElem? (i := 78) rfl)
theorem w79 (hw : HW a0 Z) : Jvm.Cond.before (Jvm.Cond.static ({ cls := "java/lang/StringLatin1", name := "canEncode", desc := "(C)Z" } : Jvm.MethodName)) a0 Z = true := hw _ (List.mem_of_getElem? (i := 79) rfl)
theorem w80 (hw : HW a0 Z) : Jvm.Cond.before (Jvm.Cond.initialized "java/lang/StringLatin1") a0 Z = true := hw _ (List.mem_of_getElem? (i := 80) rfl)
theorem w81 (hw : HW a0 Z) : Jvm.Cond.before (Jvm.Cond.code ({ cls := "java/lang/StringLatin1", name := "canEncode", desc := "(C)Z" } : Jvm.MethodName) jdk_43_method_3_code (1 : Nat) (Option.some Jvm.ClassFile.FieldType.boolean)) a0 Z = true := hw _ (List.mem_of_getElem? (i := 81) rfl)
theorem w82 (hw : HW a0 Z) : Jvm.Cond.before (Jvm.Cond.stringLink "com/example/half_message_commit/halfmessagecommit/protocol/JsonWriterBeginObjectPinLaw" (18 : Nat) "a") a0 Z = true := hw _ (List.mem_of_getElem? (i := 82) rfl)
theorem w83 (hw : HW a0 Z) : Jvm.Cond.before (Jvm.Cond.instantiable "java/lang/String" (4 : Nat)) a0 Z = true := hw _ (List.mem_of_getElem? (i := 83) rfl)
theorem w84 (hw : HW a0 Z) : Jvm.Cond.before (Jvm.Cond.laysFinal "java/lang/String" "java/lang/String" "value" "[B") a0 Z = true := hw _ (List.mem_of_getElem? (i := 84) rfl)
theorem w85 (hw : HW a0 Z) : Jvm.Cond.before (Jvm.Cond.laysFinal "java/lang/String" "java/lang/String" "coder" "B") a0 Z = true := hw _ (List.mem_of_getElem? (i := 85) rfl)
theorem w88 (hw : HW a0 Z) : Jvm.Cond.before (Jvm.Cond.methodLink "com/example/half_message_commit/halfmessagecommit/protocol/JsonWriterBeginObjectPinLaw" (20 : Nat) ({ cls := "com/example/half_message_commit/halfmessagecommit/protocol/JsonWriter", name := "beginArray", desc := "(Ljava/lang/String;)V" } : Jvm.MethodName)) a0 Z = true := hw _ (List.mem_of_getElem? (i := 88) rfl)
theorem w89 (hw : HW a0 Z) : Jvm.Cond.before (Jvm.Cond.declares ({ cls := "com/example/half_message_commit/halfmessagecommit/protocol/JsonWriter", name := "beginArray", desc := "(Ljava/lang/String;)V" } : Jvm.MethodName)) a0 Z = true := hw _ (List.mem_of_getElem? (i := 89) rfl)
theorem w90 (hw : HW a0 Z) : Jvm.Cond.before (Jvm.Cond.instanceMethod ({ cls := "com/example/half_message_commit/halfmessagecommit/protocol/JsonWriter", name := "beginArray", desc := "(Ljava/lang/String;)V" } : Jvm.MethodName)) a0 Z = true := hw _ (List.mem_of_getElem? (i := 90) rfl)
theorem w91 (hw : HW a0 Z) : Jvm.Cond.before (Jvm.Cond.selects "com/example/half_message_commit/halfmessagecommit/protocol/JsonWriter" ({ cls := "com/example/half_message_commit/halfmessagecommit/protocol/JsonWriter", name := "beginArray", desc := "(Ljava/lang/String;)V" } : Jvm.MethodName) ({ cls := "com/example/half_message_commit/halfmessagecommit/protocol/JsonWriter", name := "beginArray", desc := "(Ljava/lang/String;)V" } : Jvm.MethodName)) a0 Z = true := hw _ (List.mem_of_getElem? (i := 91) rfl)
theorem w92 (hw : HW a0 Z) : Jvm.Cond.before (Jvm.Cond.code ({ cls := "com/example/half_message_commit/halfmessagecommit/protocol/JsonWriter", name := "beginArray", desc := "(Ljava/lang/String;)V" } : Jvm.MethodName) prog_24_method_5_code (2 : Nat) (Option.none : Option Jvm.ClassFile.FieldType)) a0 Z = true := hw _ (List.mem_of_getElem? (i := 92) rfl)
theorem w93 (hw : HW a0 Z) : Jvm.Cond.before (Jvm.Cond.methodLink "com/example/half_message_commit/halfmessagecommit/protocol/JsonWriter" (40 : Nat) ({ cls := "com/example/half_message_commit/halfmessagecommit/protocol/JsonWriter", name := "name", desc := "(Ljava/lang/String;)V" } : Jvm.MethodName)) a0 Z = true := hw _ (List.mem_of_getElem? (i := 93) rfl)
theorem w94 (hw : HW a0 Z) : Jvm.Cond.before (Jvm.Cond.instanceMethod ({ cls := "com/example/half_message_commit/halfmessagecommit/protocol/JsonWriter", name := "name", desc := "(Ljava/lang/String;)V" } : Jvm.MethodName)) a0 Z = true := hw _ (List.mem_of_getElem? (i := 94) rfl)
theorem w95 (hw : HW a0 Z) : Jvm.Cond.before (Jvm.Cond.privateMethod ({ cls := "com/example/half_message_commit/halfmessagecommit/protocol/JsonWriter", name := "name", desc := "(Ljava/lang/String;)V" } : Jvm.MethodName)) a0 Z = true := hw _ (List.mem_of_getElem? (i := 95) rfl)
theorem w96 (hw : HW a0 Z) : Jvm.Cond.before (Jvm.Cond.code ({ cls := "com/example/half_message_commit/halfmessagecommit/protocol/JsonWriter", name := "name", desc := "(Ljava/lang/String;)V" } : Jvm.MethodName) prog_24_method_11_code (2 : Nat) (Option.none : Option Jvm.ClassFile.FieldType)) a0 Z = true := hw _ (List.mem_of_getElem? (i := 96) rfl)
theorem w97 (hw : HW a0 Z) : Jvm.Cond.before (Jvm.Cond.methodLink "com/example/half_message_commit/halfmessagecommit/protocol/JsonWriter" (66 : Nat) ({ cls := "java/lang/StringBuilder", name := "charAt", desc := "(I)C" } : Jvm.MethodName)) a0 Z = true := hw _ (List.mem_of_getElem? (i := 97) rfl)
theorem w98 (hw : HW a0 Z) : Jvm.Cond.before (Jvm.Cond.declares ({ cls := "java/lang/StringBuilder", name := "charAt", desc := "(I)C" } : Jvm.MethodName)) a0 Z = true := hw _ (List.mem_of_getElem? (i := 98) rfl)
theorem w99 (hw : HW a0 Z) : Jvm.Cond.before (Jvm.Cond.instanceMethod ({ cls := "java/lang/StringBuilder", name := "charAt", desc := "(I)C" } : Jvm.MethodName)) a0 Z = true := hw _ (List.mem_of_getElem? (i := 99) rfl)
theorem w100 (hw : HW a0 Z) : Jvm.Cond.before (Jvm.Cond.selects "java/lang/StringBuilder" ({ cls := "java/lang/StringBuilder", name := "charAt", desc := "(I)C" } : Jvm.MethodName) ({ cls := "java/lang/StringBuilder", name := "charAt", desc := "(I)C" } : Jvm.MethodName)) a0 Z = true := hw _ (List.mem_of_getElem? (i := 100) rfl)
theorem w101 (hw : HW a0 Z) : Jvm.Cond.before (Jvm.Cond.code ({ cls := "java/lang/StringBuilder", name := "charAt", desc := "(I)C" } : Jvm.MethodName) jdk_67_method_88_code (2 : Nat) (Option.some Jvm.ClassFile.FieldType.char)) a0 Z = true := hw _ (List.mem_of_getElem? (i := 101) rfl)
theorem w102 (hw : HW a0 Z) : Jvm.Cond.before (Jvm.Cond.methodLink "java/lang/StringBuilder" (329 : Nat) ({ cls := "java/lang/AbstractStringBuilder", name := "charAt", desc := "(I)C" } : Jvm.MethodName)) a0 Z = true := hw _ (List.mem_of_getElem? (i := 102) rfl)
theorem w103 (hw : HW a0 Z) : Jvm.Cond.before (Jvm.Cond.instanceMethod ({ cls := "java/lang/AbstractStringBuilder", name := "charAt", desc := "(I)C" } : Jvm.MethodName)) a0 Z = true := hw _ (List.mem_of_getElem? (i := 103) rfl)
theorem w105 (hw : HW a0 Z) : Jvm.Cond.before (Jvm.Cond.code ({ cls := "java/lang/AbstractStringBuilder", name := "charAt", desc := "(I)C" } : Jvm.MethodName) jdk_68_method_14_code (5 : Nat) (Option.some Jvm.ClassFile.FieldType.char)) a0 Z = true := hw _ (List.mem_of_getElem? (i := 105) rfl)
theorem w106 (hw : HW a0 Z) : Jvm.Cond.before (Jvm.Cond.methodLink "java/lang/AbstractStringBuilder" (138 : Nat) ({ cls := "java/lang/Math", name := "min", desc := "(II)I" } : Jvm.MethodName)) a0 Z = true := hw _ (List.mem_of_getElem? (i := 106) rfl)
theorem w107 (hw : HW a0 Z) : Jvm.Cond.before (Jvm.Cond.static ({ cls := "java/lang/Math", name := "min", desc := "(II)I" } : Jvm.MethodName)) a0 Z = true := hw _ (List.mem_of_getElem? (i := 107) rfl)
theorem w108 (hw : HW a0 Z) : Jvm.Cond.before (Jvm.Cond.code ({ cls := "java/lang/Math", name := "min", desc := "(II)I" } : Jvm.MethodName) jdk_29_method_69_code (2 : Nat) (Option.some Jvm.ClassFile.FieldType.int)) a0 Z = true := hw _ (List.mem_of_getElem? (i := 108) rfl)
theorem w109 (hw : HW a0 Z) : Jvm.Cond.before (Jvm.Cond.methodLink "java/lang/AbstractStringBuilder" (144 : Nat) ({ cls := "java/lang/String", name := "checkIndex", desc := "(II)V" } : Jvm.MethodName)) a0 Z = true := hw _ (List.mem_of_getElem? (i := 109) rfl)
theorem w110 (hw : HW a0 Z) : Jvm.Cond.before (Jvm.Cond.static ({ cls := "java/lang/String", name := "checkIndex", desc := "(II)V" } : Jvm.MethodName)) a0 Z = true := hw _ (List.mem_of_getElem? (i := 110) rfl)
theorem w111 (hw : HW a0 Z) : Jvm.Cond.before (Jvm.Cond.code ({ cls := "java/lang/String", name := "checkIndex", desc := "(II)V" } : Jvm.MethodName) jdk_42_method_155_code (2 : Nat) (Option.none : Option Jvm.ClassFile.FieldType)) a0 Z = true := hw _ (List.mem_of_getElem? (i := 111) rfl)
theorem w112 (hw : HW a0 Z) : Jvm.Cond.before (Jvm.Cond.fieldLink "java/lang/String" (1053 : Nat) "jdk/internal/util/Preconditions" "SIOOBE_FORMATTER" "Ljava/util/function/BiFunction;") a0 Z = true := hw _ (List.mem_of_getElem? (i := 112) rfl)
theorem w113 (hw : HW a0 Z) : Jvm.Cond.before (Jvm.Cond.initialized "jdk/internal/util/Preconditions") a0 Z = true := hw _ (List.mem_of_getElem? (i := 113) rfl)
theorem w114 (hw : HW a0 Z) : Jvm.Cond.before (Jvm.Cond.methodLink "java/lang/String" (1059 : Nat) ({ cls := "jdk/internal/util/Preconditions", name := "checkIndex", desc := "(IILjava/util/function/BiFunction;)I" } : Jvm.MethodName)) a0 Z = true := hw _ (List.mem_of_getElem? (i := 114) rfl)
theorem w115 (hw : HW a0 Z) : Jvm.Cond.before (Jvm.Cond.static ({ cls := "jdk/internal/util/Preconditions", name := "checkIndex", desc := "(IILjava/util/function/BiFunction;)I" } : Jvm.MethodName)) a0 Z = true := hw _ (List.mem_of_getElem? (i := 115) rfl)
theorem w116 (hw : HW a0 Z) : Jvm.Cond.before (Jvm.Cond.code ({ cls := "jdk/internal/util/Preconditions", name := "checkIndex", desc := "(IILjava/util/function/BiFunction;)I" } : Jvm.MethodName) jdk_41_method_11_code (3 : Nat) (Option.some Jvm.ClassFile.FieldType.int)) a0 Z = true := hw _ (List.mem_of_getElem? (i := 116) rfl)
theorem w117 (hw : HW a0 Z) : Jvm.Cond.before (Jvm.Cond.methodLink "com/example/half_message_commit/halfmessagecommit/protocol/JsonWriter" (49 : Nat) ({ cls := "com/example/half_message_commit/halfmessagecommit/protocol/JsonWriter", name := "string", desc := "(Ljava/lang/String;)V" } : Jvm.MethodName)) a0 Z = true := hw _ (List.mem_of_getElem? (i := 117) rfl)
theorem w118 (hw : HW a0 Z) : Jvm.Cond.before (Jvm.Cond.instanceMethod ({ cls := "com/example/half_message_commit/halfmessagecommit/protocol/JsonWriter", name := "string", desc := "(Ljava/lang/String;)V" } : Jvm.MethodName)) a0 Z = true := hw _ (List.mem_of_getElem? (i := 118) rfl)
theorem w119 (hw : HW a0 Z) : Jvm.Cond.before (Jvm.Cond.privateMethod ({ cls := "com/example/half_message_commit/halfmessagecommit/protocol/JsonWriter", name := "string", desc := "(Ljava/lang/String;)V" } : Jvm.MethodName)) a0 Z = true := hw _ (List.mem_of_getElem? (i := 119) rfl)
theorem w120 (hw : HW a0 Z) : Jvm.Cond.before (Jvm.Cond.code ({ cls := "com/example/half_message_commit/halfmessagecommit/protocol/JsonWriter", name := "string", desc := "(Ljava/lang/String;)V" } : Jvm.MethodName) prog_24_method_13_code (5 : Nat) (Option.none : Option Jvm.ClassFile.FieldType)) a0 Z = true := hw _ (List.mem_of_getElem? (i := 120) rfl)
theorem w121 (hw : HW a0 Z) : Jvm.Cond.before (Jvm.Cond.methodLink "com/example/half_message_commit/halfmessagecommit/protocol/JsonWriter" (70 : Nat) ({ cls := "java/lang/String", name := "length", desc := "()I" } : Jvm.MethodName)) a0 Z = true := hw _ (List.mem_of_getElem? (i := 121) rfl)
theorem w122 (hw : HW a0 Z) : Jvm.Cond.before (Jvm.Cond.declares ({ cls := "java/lang/String", name := "length", desc := "()I" } : Jvm.MethodName)) a0 Z = true := hw _ (List.mem_of_getElem? (i := 122) rfl)
theorem w123 (hw : HW a0 Z) : Jvm.Cond.before (Jvm.Cond.instanceMethod ({ cls := "java/lang/String", name := "length", desc := "()I" } : Jvm.MethodName)) a0 Z = true := hw _ (List.mem_of_getElem? (i := 123) rfl)
theorem w124 (hw : HW a0 Z) : Jvm.Cond.before (Jvm.Cond.selects "java/lang/String" ({ cls := "java/lang/String", name := "length", desc := "()I" } : Jvm.MethodName) ({ cls := "java/lang/String", name := "length", desc := "()I" } : Jvm.MethodName)) a0 Z = true := hw _ (List.mem_of_getElem? (i := 124) rfl)
theorem w125 (hw : HW a0 Z) : Jvm.Cond.before (Jvm.Cond.code ({ cls := "java/lang/String", name := "length", desc := "()I" } : Jvm.MethodName) jdk_42_method_54_code (1 : Nat) (Option.some Jvm.ClassFile.FieldType.int)) a0 Z = true := hw _ (List.mem_of_getElem? (i := 125) rfl)
theorem w126 (hw : HW a0 Z) : Jvm.Cond.before (Jvm.Cond.fieldLink "java/lang/String" (9 : Nat) "java/lang/String" "value" "[B") a0 Z = true := hw _ (List.mem_of_getElem? (i := 126) rfl)
theorem w127 (hw : HW a0 Z) : Jvm.Cond.before (Jvm.Cond.methodLink "java/lang/String" (335 : Nat) ({ cls := "java/lang/String", name := "coder", desc := "()B" } : Jvm.MethodName)) a0 Z = true := hw _ (List.mem_of_getElem? (i := 127) rfl)
theorem w128 (hw : HW a0 Z) : Jvm.Cond.before (Jvm.Cond.declares ({ cls := "java/lang/String", name := "coder", desc := "()B" } : Jvm.MethodName)) a0 Z = true := hw _ (List.mem_of_getElem? (i := 128) rfl)
theorem w129 (hw : HW a0 Z) : Jvm.Cond.before (Jvm.Cond.instanceMethod ({ cls := "java/lang/String", name := "coder", desc := "()B" } : Jvm.MethodName)) a0 Z = true := hw _ (List.mem_of_getElem? (i := 129) rfl)
theorem w130 (hw : HW a0 Z) : Jvm.Cond.before (Jvm.Cond.selects "java/lang/String" ({ cls := "java/lang/String", name := "coder", desc := "()B" } : Jvm.MethodName) ({ cls := "java/lang/String", name := "coder", desc := "()B" } : Jvm.MethodName)) a0 Z = true := hw _ (List.mem_of_getElem? (i := 130) rfl)
theorem w131 (hw : HW a0 Z) : Jvm.Cond.before (Jvm.Cond.code ({ cls := "java/lang/String", name := "coder", desc := "()B" } : Jvm.MethodName) jdk_42_method_152_code (1 : Nat) (Option.some Jvm.ClassFile.FieldType.byte)) a0 Z = true := hw _ (List.mem_of_getElem? (i := 131) rfl)
theorem w132 (hw : HW a0 Z) : Jvm.Cond.before (Jvm.Cond.fieldLink "java/lang/String" (38 : Nat) "java/lang/String" "COMPACT_STRINGS" "Z") a0 Z = true := hw _ (List.mem_of_getElem? (i := 132) rfl)
theorem w133 (hw : HW a0 Z) : Jvm.Cond.before (Jvm.Cond.fieldLink "java/lang/String" (15 : Nat) "java/lang/String" "coder" "B") a0 Z = true := hw _ (List.mem_of_getElem? (i := 133) rfl)
theorem w134 (hw : HW a0 Z) : Jvm.Cond.before (Jvm.Cond.methodLink "com/example/half_message_commit/halfmessagecommit/protocol/JsonWriter" (73 : Nat) ({ cls := "java/lang/String", name := "charAt", desc := "(I)C" } : Jvm.MethodName)) a0 Z = true := hw _ (List.mem_of_getElem? (i := 134) rfl)
theorem w135 (hw : HW a0 Z) : Jvm.Cond.before (Jvm.Cond.declares ({ cls := "java/lang/String", name := "charAt", desc := "(I)C" } : Jvm.MethodName)) a0 Z = true := hw _ (List.mem_of_getElem? (i := 135) rfl)
theorem w136 (hw : HW a0 Z) : Jvm.Cond.before (Jvm.Cond.instanceMethod ({ cls := "java/lang/String", name := "charAt", desc := "(I)C" } : Jvm.MethodName)) a0 Z = true := hw _ (List.mem_of_getElem? (i := 136) rfl)
theorem w137 (hw : HW a0 Z) : Jvm.Cond.before (Jvm.Cond.selects "java/lang/String" ({ cls := "java/lang/String", name := "charAt", desc := "(I)C" } : Jvm.MethodName) ({ cls := "java/lang/String", name := "charAt", desc := "(I)C" } : Jvm.MethodName)) a0 Z = true := hw _ (List.mem_of_getElem? (i := 137) rfl)
theorem w138 (hw : HW a0 Z) : Jvm.Cond.before (Jvm.Cond.code ({ cls := "java/lang/String", name := "charAt", desc := "(I)C" } : Jvm.MethodName) jdk_42_method_56_code (2 : Nat) (Option.some Jvm.ClassFile.FieldType.char)) a0 Z = true := hw _ (List.mem_of_getElem? (i := 138) rfl)
theorem w139 (hw : HW a0 Z) : Jvm.Cond.before (Jvm.Cond.methodLink "java/lang/String" (492 : Nat) ({ cls := "java/lang/String", name := "isLatin1", desc := "()Z" } : Jvm.MethodName)) a0 Z = true := hw _ (List.mem_of_getElem? (i := 139) rfl)
theorem w140 (hw : HW a0 Z) : Jvm.Cond.before (Jvm.Cond.declares ({ cls := "java/lang/String", name := "isLatin1", desc := "()Z" } : Jvm.MethodName)) a0 Z = true := hw _ (List.mem_of_getElem? (i := 140) rfl)
theorem w141 (hw : HW a0 Z) : Jvm.Cond.before (Jvm.Cond.instanceMethod ({ cls := "java/lang/String", name := "isLatin1", desc := "()Z" } : Jvm.MethodName)) a0 Z = true := hw _ (List.mem_of_getElem? (i := 141) rfl)
theorem w142 (hw : HW a0 Z) : Jvm.Cond.before (Jvm.Cond.selects "java/lang/String" ({ cls := "java/lang/String", name := "isLatin1", desc := "()Z" } : Jvm.MethodName) ({ cls := "java/lang/String", name := "isLatin1", desc := "()Z" } : Jvm.MethodName)) a0 Z = true := hw _ (List.mem_of_getElem? (i := 142) rfl)
theorem w143 (hw : HW a0 Z) : Jvm.Cond.before (Jvm.Cond.code ({ cls := "java/lang/String", name := "isLatin1", desc := "()Z" } : Jvm.MethodName) jdk_42_method_154_code (1 : Nat) (Option.some Jvm.ClassFile.FieldType.boolean)) a0 Z = true := hw _ (List.mem_of_getElem? (i := 143) rfl)
theorem w144 (hw : HW a0 Z) : Jvm.Cond.before (Jvm.Cond.methodLink "java/lang/String" (495 : Nat) ({ cls := "java/lang/StringLatin1", name := "charAt", desc := "([BI)C" } : Jvm.MethodName)) a0 Z = true := hw _ (List.mem_of_getElem? (i := 144) rfl)
theorem w145 (hw : HW a0 Z) : Jvm.Cond.before (Jvm.Cond.static ({ cls := "java/lang/StringLatin1", name := "charAt", desc := "([BI)C" } : Jvm.MethodName)) a0 Z = true := hw _ (List.mem_of_getElem? (i := 145) rfl)
theorem w146 (hw : HW a0 Z) : Jvm.Cond.before (Jvm.Cond.code ({ cls := "java/lang/StringLatin1", name := "charAt", desc := "([BI)C" } : Jvm.MethodName) jdk_43_method_2_code (2 : Nat) (Option.some Jvm.ClassFile.FieldType.char)) a0 Z = true := hw _ (List.mem_of_getElem? (i := 146) rfl)
theorem w147 (hw : HW a0 Z) : Jvm.Cond.before (Jvm.Cond.methodLink "java/lang/StringLatin1" (9 : Nat) ({ cls := "java/lang/String", name := "checkIndex", desc := "(II)V" } : Jvm.MethodName)) a0 Z = true := hw _ (List.mem_of_getElem? (i := 147) rfl)
theorem w148 (hw : HW a0 Z) : Jvm.Cond.before (Jvm.Cond.methodLink "com/example/half_message_commit/halfmessagecommit/protocol/JsonWriter" (74 : Nat) ({ cls := "java/lang/StringBuilder", name := "append", desc := "(Ljava/lang/CharSequence;II)Ljava/lang/StringBuilder;" } : Jvm.MethodName)) a0 Z = true := hw _ (List.mem_of_getElem? (i := 148) rfl)
theorem w149 (hw : HW a0 Z) : Jvm.Cond.before (Jvm.Cond.declares ({ cls := "java/lang/StringBuilder", name := "append", desc := "(Ljava/lang/CharSequence;II)Ljava/lang/StringBuilder;" } : Jvm.MethodName)) a0 Z = true := hw _ (List.mem_of_getElem? (i := 149) rfl)
theorem w150 (hw : HW a0 Z) : Jvm.Cond.before (Jvm.Cond.instanceMethod ({ cls := "java/lang/StringBuilder", name := "append", desc := "(Ljava/lang/CharSequence;II)Ljava/lang/StringBuilder;" } : Jvm.MethodName)) a0 Z = true := hw _ (List.mem_of_getElem? (i := 150) rfl)
theorem w151 (hw : HW a0 Z) : Jvm.Cond.before (Jvm.Cond.selects "java/lang/StringBuilder" ({ cls := "java/lang/StringBuilder", name := "append", desc := "(Ljava/lang/CharSequence;II)Ljava/lang/StringBuilder;" } : Jvm.MethodName) ({ cls := "java/lang/StringBuilder", name := "append", desc := "(Ljava/lang/CharSequence;II)Ljava/lang/StringBuilder;" } : Jvm.MethodName)) a0 Z = true := hw _ (List.mem_of_getElem? (i := 151) rfl)
theorem w152 (hw : HW a0 Z) : Jvm.Cond.before (Jvm.Cond.code ({ cls := "java/lang/StringBuilder", name := "append", desc := "(Ljava/lang/CharSequence;II)Ljava/lang/StringBuilder;" } : Jvm.MethodName) jdk_67_method_10_code (4 : Nat) (Option.some (Jvm.ClassFile.FieldType.object "java/lang/StringBuilder"))) a0 Z = true := hw _ (List.mem_of_getElem? (i := 152) rfl)
theorem w153 (hw : HW a0 Z) : Jvm.Cond.before (Jvm.Cond.methodLink "java/lang/StringBuilder" (38 : Nat) ({ cls := "java/lang/AbstractStringBuilder", name := "append", desc := "(Ljava/lang/CharSequence;II)Ljava/lang/AbstractStringBuilder;" } : Jvm.MethodName)) a0 Z = true := hw _ (List.mem_of_getElem? (i := 153) rfl)
theorem w154 (hw : HW a0 Z) : Jvm.Cond.before (Jvm.Cond.instanceMethod ({ cls := "java/lang/AbstractStringBuilder", name := "append", desc := "(Ljava/lang/CharSequence;II)Ljava/lang/AbstractStringBuilder;" } : Jvm.MethodName)) a0 Z = true := hw _ (List.mem_of_getElem? (i := 154) rfl)
theorem w156 (hw : HW a0 Z) : Jvm.Cond.before (Jvm.Cond.code ({ cls := "java/lang/AbstractStringBuilder", name := "append", desc := "(Ljava/lang/CharSequence;II)Ljava/lang/AbstractStringBuilder;" } : Jvm.MethodName) jdk_68_method_27_code (5 : Nat) (Option.some (Jvm.ClassFile.FieldType.object "java/lang/AbstractStringBuilder"))) a0 Z = true := hw _ (List.mem_of_getElem? (i := 156) rfl)
theorem w157 (hw : HW a0 Z) : Jvm.Cond.before (Jvm.Cond.methodLink "java/lang/AbstractStringBuilder" (47 : Nat) ({ cls := "java/lang/CharSequence", name := "length", desc := "()I" } : Jvm.MethodName)) a0 Z = true := hw _ (List.mem_of_getElem? (i := 157) rfl)
theorem w158 (hw : HW a0 Z) : Jvm.Cond.before (Jvm.Cond.declares ({ cls := "java/lang/CharSequence", name := "length", desc := "()I" } : Jvm.MethodName)) a0 Z = true := hw _ (List.mem_of_getElem? (i := 158) rfl)
theorem w159 (hw : HW a0 Z) : Jvm.Cond.before (Jvm.Cond.interfaceMethod "java/lang/CharSequence" "java/lang/CharSequence" "length" "()I") a0 Z = true := hw _ (List.mem_of_getElem? (i := 159) rfl)
theorem w160 (hw : HW a0 Z) : Jvm.Cond.before (Jvm.Cond.selects "java/lang/String" ({ cls := "java/lang/CharSequence", name := "length", desc := "()I" } : Jvm.MethodName) ({ cls := "java/lang/String", name := "length", desc := "()I" } : Jvm.MethodName)) a0 Z = true := hw _ (List.mem_of_getElem? (i := 160) rfl)
theorem w161 (hw : HW a0 Z) : Jvm.Cond.before (Jvm.Cond.publicMethod ({ cls := "java/lang/String", name := "length", desc := "()I" } : Jvm.MethodName)) a0 Z = true := hw _ (List.mem_of_getElem? (i := 161) rfl)
theorem w162 (hw : HW a0 Z) : Jvm.Cond.before (Jvm.Cond.unhidden "java/lang/String" "length" "()I") a0 Z = true := hw _ (List.mem_of_getElem? (i := 162) rfl)
theorem w163 (hw : HW a0 Z) : Jvm.Cond.before (Jvm.Cond.castable "java/lang/String" "java/lang/CharSequence") a0 Z = true := hw _ (List.mem_of_getElem? (i := 163) rfl)
theorem w164 (hw : HW a0 Z) : Jvm.Cond.before (Jvm.Cond.fieldLink "java/lang/AbstractStringBuilder" (183 : Nat) "jdk/internal/util/Preconditions" "IOOBE_FORMATTER" "Ljava/util/function/BiFunction;") a0 Z = true := hw _ (List.mem_of_getElem? (i := 164) rfl)
theorem w165 (hw : HW a0 Z) : Jvm.Cond.before (Jvm.Cond.laysStatic "jdk/internal/util/Preconditions" "IOOBE_FORMATTER" "Ljava/util/function/BiFunction;") a0 Z = true := hw _ (List.mem_of_getElem? (i := 165) rfl)
theorem w166 (hw : HW a0 Z) : Jvm.Cond.before (Jvm.Cond.methodLink "java/lang/AbstractStringBuilder" (161 : Nat) ({ cls := "jdk/internal/util/Preconditions", name := "checkFromToIndex", desc := "(IIILjava/util/function/BiFunction;)I" } : Jvm.MethodName)) a0 Z = true := hw _ (List.mem_of_getElem? (i := 166) rfl)
theorem w167 (hw : HW a0 Z) : Jvm.Cond.before (Jvm.Cond.static ({ cls := "jdk/internal/util/Preconditions", name := "checkFromToIndex", desc := "(IIILjava/util/function/BiFunction;)I" } : Jvm.MethodName)) a0 Z = true := hw _ (List.mem_of_getElem? (i := 167) rfl)
theorem w168 (hw : HW a0 Z) : Jvm.Cond.before (Jvm.Cond.code ({ cls := "jdk/internal/util/Preconditions", name := "checkFromToIndex", desc := "(IIILjava/util/function/BiFunction;)I" } : Jvm.MethodName) jdk_41_method_12_code (4 : Nat) (Option.some Jvm.ClassFile.FieldType.int)) a0 Z = true := hw _ (List.mem_of_getElem? (i := 168) rfl)
theorem w169 (hw : HW a0 Z) : Jvm.Cond.before (Jvm.Cond.classLink "java/lang/AbstractStringBuilder" (1 : Nat) "java/lang/String") a0 Z = true := hw _ (List.mem_of_getElem? (i := 169) rfl)
theorem w171 (hw : HW a0 Z) : Jvm.Cond.before (Jvm.Cond.methodLink "java/lang/AbstractStringBuilder" (232 : Nat) ({ cls := "java/lang/AbstractStringBuilder", name := "appendChars", desc := "(Ljava/lang/String;II)V" } : Jvm.MethodName)) a0 Z = true := hw _ (List.mem_of_getElem? (i := 171) rfl)
theorem w172 (hw : HW a0 Z) : Jvm.Cond.before (Jvm.Cond.instanceMethod ({ cls := "java/lang/AbstractStringBuilder", name := "appendChars", desc := "(Ljava/lang/String;II)V" } : Jvm.MethodName)) a0 Z = true := hw _ (List.mem_of_getElem? (i := 172) rfl)
theorem w173 (hw : HW a0 Z) : Jvm.Cond.before (Jvm.Cond.privateMethod ({ cls := "java/lang/AbstractStringBuilder", name := "appendChars", desc := "(Ljava/lang/String;II)V" } : Jvm.MethodName)) a0 Z = true := hw _ (List.mem_of_getElem? (i := 173) rfl)
theorem w174 (hw : HW a0 Z) : Jvm.Cond.before (Jvm.Cond.selects "java/lang/StringBuilder" ({ cls := "java/lang/AbstractStringBuilder", name := "appendChars", desc := "(Ljava/lang/String;II)V" } : Jvm.MethodName) ({ cls := "java/lang/AbstractStringBuilder", name := "appendChars", desc := "(Ljava/lang/String;II)V" } : Jvm.MethodName)) a0 Z = true := hw _ (List.mem_of_getElem? (i := 174) rfl)
theorem w175 (hw : HW a0 Z) : Jvm.Cond.before (Jvm.Cond.code ({ cls := "java/lang/AbstractStringBuilder", name := "appendChars", desc := "(Ljava/lang/String;II)V" } : Jvm.MethodName) jdk_68_method_75_code (8 : Nat) (Option.none : Option Jvm.ClassFile.FieldType)) a0 Z = true := hw _ (List.mem_of_getElem? (i := 175) rfl)
theorem w176 (hw : HW a0 Z) : Jvm.Cond.before (Jvm.Cond.methodLink "java/lang/AbstractStringBuilder" (400 : Nat) ({ cls := "java/lang/String", name := "isLatin1", desc := "()Z" } : Jvm.MethodName)) a0 Z = true := hw _ (List.mem_of_getElem? (i := 176) rfl)
theorem w177 (hw : HW a0 Z) : Jvm.Cond.before (Jvm.Cond.methodLink "java/lang/AbstractStringBuilder" (401 : Nat) ({ cls := "java/lang/String", name := "value", desc := "()[B" } : Jvm.MethodName)) a0 Z = true := hw _ (List.mem_of_getElem? (i := 177) rfl)
theorem w178 (hw : HW a0 Z) : Jvm.Cond.before (Jvm.Cond.declares ({ cls := "java/lang/String", name := "value", desc := "()[B" } : Jvm.MethodName)) a0 Z = true := hw _ (List.mem_of_getElem? (i := 178) rfl)
theorem w179 (hw : HW a0 Z) : Jvm.Cond.before (Jvm.Cond.instanceMethod ({ cls := "java/lang/String", name := "value", desc := "()[B" } : Jvm.MethodName)) a0 Z = true := hw _ (List.mem_of_getElem? (i := 179) rfl)
theorem w180 (hw : HW a0 Z) : Jvm.Cond.before (Jvm.Cond.selects "java/lang/String" ({ cls := "java/lang/String", name := "value", desc := "()[B" } : Jvm.MethodName) ({ cls := "java/lang/String", name := "value", desc := "()[B" } : Jvm.MethodName)) a0 Z = true := hw _ (List.mem_of_getElem? (i := 180) rfl)
theorem w181 (hw : HW a0 Z) : Jvm.Cond.before (Jvm.Cond.code ({ cls := "java/lang/String", name := "value", desc := "()[B" } : Jvm.MethodName) jdk_42_method_153_code (1 : Nat) (Option.some (Jvm.ClassFile.FieldType.array Jvm.ClassFile.FieldType.byte))) a0 Z = true := hw _ (List.mem_of_getElem? (i := 181) rfl)
theorem w182 (hw : HW a0 Z) : Jvm.Cond.before (Jvm.Cond.methodLink "java/lang/AbstractStringBuilder" (309 : Nat) ({ cls := "java/lang/System", name := "arraycopy", desc := "(Ljava/lang/Object;ILjava/lang/Object;II)V" } : Jvm.MethodName)) a0 Z = true := hw _ (List.mem_of_getElem? (i := 182) rfl)
theorem w183 (hw : HW a0 Z) : Jvm.Cond.before (Jvm.Cond.static ({ cls := "java/lang/System", name := "arraycopy", desc := "(Ljava/lang/Object;ILjava/lang/Object;II)V" } : Jvm.MethodName)) a0 Z = true := hw _ (List.mem_of_getElem? (i := 183) rfl)
theorem w184 (hw : HW a0 Z) : Jvm.Cond.before (Jvm.Cond.initialized "java/lang/System") a0 Z = true := hw _ (List.mem_of_getElem? (i := 184) rfl)
theorem w185 (hw : HW a0 Z) : Jvm.Cond.before (Jvm.Cond.native ({ cls := "java/lang/System", name := "arraycopy", desc := "(Ljava/lang/Object;ILjava/lang/Object;II)V" } : Jvm.MethodName)) a0 Z = true := hw _ (List.mem_of_getElem? (i := 185) rfl)
theorem w186 (hw : HW a0 Z) : Jvm.Cond.before (Jvm.Cond.methodLink "java/lang/AbstractStringBuilder" (104 : Nat) ({ cls := "java/lang/AbstractStringBuilder", name := "newCapacity", desc := "(I)I" } : Jvm.MethodName)) a0 Z = true := hw _ (List.mem_of_getElem? (i := 186) rfl)
theorem w187 (hw : HW a0 Z) : Jvm.Cond.before (Jvm.Cond.instanceMethod ({ cls := "java/lang/AbstractStringBuilder", name := "newCapacity", desc := "(I)I" } : Jvm.MethodName)) a0 Z = true := hw _ (List.mem_of_getElem? (i := 187) rfl)
theorem w188 (hw : HW a0 Z) : Jvm.Cond.before (Jvm.Cond.privateMethod ({ cls := "java/lang/AbstractStringBuilder", name := "newCapacity", desc := "(I)I" } : Jvm.MethodName)) a0 Z = true := hw _ (List.mem_of_getElem? (i := 188) rfl)
theorem w189 (hw : HW a0 Z) : Jvm.Cond.before (Jvm.Cond.selects "java/lang/StringBuilder" ({ cls := "java/lang/AbstractStringBuilder", name := "newCapacity", desc := "(I)I" } : Jvm.MethodName) ({ cls := "java/lang/AbstractStringBuilder", name := "newCapacity", desc := "(I)I" } : Jvm.MethodName)) a0 Z = true := hw _ (List.mem_of_getElem? (i := 189) rfl)
theorem w190 (hw : HW a0 Z) : Jvm.Cond.before (Jvm.Cond.code ({ cls := "java/lang/AbstractStringBuilder", name := "newCapacity", desc := "(I)I" } : Jvm.MethodName) jdk_68_method_10_code (6 : Nat) (Option.some Jvm.ClassFile.FieldType.int)) a0 Z = true := hw _ (List.mem_of_getElem? (i := 190) rfl)
theorem w191 (hw : HW a0 Z) : Jvm.Cond.before (Jvm.Cond.methodLink "java/lang/AbstractStringBuilder" (114 : Nat) ({ cls := "jdk/internal/util/ArraysSupport", name := "newLength", desc := "(III)I" } : Jvm.MethodName)) a0 Z = true := hw _ (List.mem_of_getElem? (i := 191) rfl)
theorem w192 (hw : HW a0 Z) : Jvm.Cond.before (Jvm.Cond.static ({ cls := "jdk/internal/util/ArraysSupport", name := "newLength", desc := "(III)I" } : Jvm.MethodName)) a0 Z = true := hw _ (List.mem_of_getElem? (i := 192) rfl)
theorem w193 (hw : HW a0 Z) : Jvm.Cond.before (Jvm.Cond.initialized "jdk/internal/util/ArraysSupport") a0 Z = true := hw _ (List.mem_of_getElem? (i := 193) rfl)
theorem w194 (hw : HW a0 Z) : Jvm.Cond.before (Jvm.Cond.code ({ cls := "jdk/internal/util/ArraysSupport", name := "newLength", desc := "(III)I" } : Jvm.MethodName) jdk_48_method_27_code (4 : Nat) (Option.some Jvm.ClassFile.FieldType.int)) a0 Z = true := hw _ (List.mem_of_getElem? (i := 194) rfl)
theorem w195 (hw : HW a0 Z) : Jvm.Cond.before (Jvm.Cond.methodLink "jdk/internal/util/ArraysSupport" (194 : Nat) ({ cls := "java/lang/Math", name := "max", desc := "(II)I" } : Jvm.MethodName)) a0 Z = true := hw _ (List.mem_of_getElem? (i := 195) rfl)
theorem w196 (hw : HW a0 Z) : Jvm.Cond.before (Jvm.Cond.static ({ cls := "java/lang/Math", name := "max", desc := "(II)I" } : Jvm.MethodName)) a0 Z = true := hw _ (List.mem_of_getElem? (i := 196) rfl)
theorem w197 (hw : HW a0 Z) : Jvm.Cond.before (Jvm.Cond.code ({ cls := "java/lang/Math", name := "max", desc := "(II)I" } : Jvm.MethodName) jdk_29_method_65_code (2 : Nat) (Option.some Jvm.ClassFile.FieldType.int)) a0 Z = true := hw _ (List.mem_of_getElem? (i := 197) rfl)
theorem w198 (hw : HW a0 Z) : Jvm.Cond.before (Jvm.Cond.constant "jdk/internal/util/ArraysSupport" (200 : Nat) (2147483639 : Int32)) a0 Z = true := hw _ (List.mem_of_getElem? (i := 198) rfl)
theorem w199 (hw : HW a0 Z) : Jvm.Cond.before (Jvm.Cond.constant "java/lang/AbstractStringBuilder" (39 : Nat) (2147483647 : Int32)) a0 Z = true := hw _ (List.mem_of_getElem? (i := 199) rfl)
theorem w200 (hw : HW a0 Z) : Jvm.Cond.before (Jvm.Cond.methodLink "java/lang/AbstractStringBuilder" (108 : Nat) ({ cls := "java/util/Arrays", name := "copyOf", desc := "([BI)[B" } : Jvm.MethodName)) a0 Z = true := hw _ (List.mem_of_getElem? (i := 200) rfl)
theorem w201 (hw : HW a0 Z) : Jvm.Cond.before (Jvm.Cond.static ({ cls := "java/util/Arrays", name := "copyOf", desc := "([BI)[B" } : Jvm.MethodName)) a0 Z = true := hw _ (List.mem_of_getElem? (i := 201) rfl)
theorem w202 (hw : HW a0 Z) : Jvm.Cond.before (Jvm.Cond.initialized "java/util/Arrays") a0 Z = true := hw _ (List.mem_of_getElem? (i := 202) rfl)
theorem w203 (hw : HW a0 Z) : Jvm.Cond.before (Jvm.Cond.code ({ cls := "java/util/Arrays", name := "copyOf", desc := "([BI)[B" } : Jvm.MethodName) jdk_65_method_121_code (3 : Nat) (Option.some (Jvm.ClassFile.FieldType.array Jvm.ClassFile.FieldType.byte))) a0 Z = true := hw _ (List.mem_of_getElem? (i := 203) rfl)
theorem w204 (hw : HW a0 Z) : Jvm.Cond.before (Jvm.Cond.methodLink "java/util/Arrays" (304 : Nat) ({ cls := "java/lang/Math", name := "min", desc := "(II)I" } : Jvm.MethodName)) a0 Z = true := hw _ (List.mem_of_getElem? (i := 204) rfl)
theorem w205 (hw : HW a0 Z) : Jvm.Cond.before (Jvm.Cond.methodLink "java/util/Arrays" (150 : Nat) ({ cls := "java/lang/System", name := "arraycopy", desc := "(Ljava/lang/Object;ILjava/lang/Object;II)V" } : Jvm.MethodName)) a0 Z = true := hw _ (List.mem_of_getElem? (i := 205) rfl)
theorem w206 (hw : HW a0 Z) : Jvm.Cond.before (Jvm.Cond.methodLink "com/example/half_message_commit/halfmessagecommit/protocol/JsonWriterBeginObjectPinLaw" (42 : Nat) ({ cls := "com/example/half_message_commit/halfmessagecommit/protocol/JsonWriter", name := "text", desc := "()Ljava/lang/String;" } : Jvm.MethodName)) a0 Z = true := hw _ (List.mem_of_getElem? (i := 206) rfl)
theorem w207 (hw : HW a0 Z) : Jvm.Cond.before (Jvm.Cond.declares ({ cls := "com/example/half_message_commit/halfmessagecommit/protocol/JsonWriter", name := "text", desc := "()Ljava/lang/String;" } : Jvm.MethodName)) a0 Z = true := hw _ (List.mem_of_getElem? (i := 207) rfl)
theorem w208 (hw : HW a0 Z) : Jvm.Cond.before (Jvm.Cond.instanceMethod ({ cls := "com/example/half_message_commit/halfmessagecommit/protocol/JsonWriter", name := "text", desc := "()Ljava/lang/String;" } : Jvm.MethodName)) a0 Z = true := hw _ (List.mem_of_getElem? (i := 208) rfl)
theorem w209 (hw : HW a0 Z) : Jvm.Cond.before (Jvm.Cond.selects "com/example/half_message_commit/halfmessagecommit/protocol/JsonWriter" ({ cls := "com/example/half_message_commit/halfmessagecommit/protocol/JsonWriter", name := "text", desc := "()Ljava/lang/String;" } : Jvm.MethodName) ({ cls := "com/example/half_message_commit/halfmessagecommit/protocol/JsonWriter", name := "text", desc := "()Ljava/lang/String;" } : Jvm.MethodName)) a0 Z = true := hw _ (List.mem_of_getElem? (i := 209) rfl)
theorem w210 (hw : HW a0 Z) : Jvm.Cond.before (Jvm.Cond.code ({ cls := "com/example/half_message_commit/halfmessagecommit/protocol/JsonWriter", name := "text", desc := "()Ljava/lang/String;" } : Jvm.MethodName) prog_24_method_10_code (1 : Nat) (Option.some (Jvm.ClassFile.FieldType.object "java/lang/String"))) a0 Z = true := hw _ (List.mem_of_getElem? (i := 210) rfl)
theorem w211 (hw : HW a0 Z) : Jvm.Cond.before (Jvm.Cond.methodLink "com/example/half_message_commit/halfmessagecommit/protocol/JsonWriter" (58 : Nat) ({ cls := "java/lang/StringBuilder", name := "toString", desc := "()Ljava/lang/String;" } : Jvm.MethodName)) a0 Z = true := hw _ (List.mem_of_getElem? (i := 211) rfl)
theorem w212 (hw : HW a0 Z) : Jvm.Cond.before (Jvm.Cond.declares ({ cls := "java/lang/StringBuilder", name := "toString", desc := "()Ljava/lang/String;" } : Jvm.MethodName)) a0 Z = true := hw _ (List.mem_of_getElem? (i := 212) rfl)
theorem w213 (hw : HW a0 Z) : Jvm.Cond.before (Jvm.Cond.instanceMethod ({ cls := "java/lang/StringBuilder", name := "toString", desc := "()Ljava/lang/String;" } : Jvm.MethodName)) a0 Z = true := hw _ (List.mem_of_getElem? (i := 213) rfl)
theorem w214 (hw : HW a0 Z) : Jvm.Cond.before (Jvm.Cond.selects "java/lang/StringBuilder" ({ cls := "java/lang/StringBuilder", name := "toString", desc := "()Ljava/lang/String;" } : Jvm.MethodName) ({ cls := "java/lang/StringBuilder", name := "toString", desc := "()Ljava/lang/String;" } : Jvm.MethodName)) a0 Z = true := hw _ (List.mem_of_getElem? (i := 214) rfl)
theorem w215 (hw : HW a0 Z) : Jvm.Cond.before (Jvm.Cond.code ({ cls := "java/lang/StringBuilder", name := "toString", desc := "()Ljava/lang/String;" } : Jvm.MethodName) jdk_67_method_42_code (1 : Nat) (Option.some (Jvm.ClassFile.FieldType.object "java/lang/String"))) a0 Z = true := hw _ (List.mem_of_getElem? (i := 215) rfl)
theorem w216 (hw : HW a0 Z) : Jvm.Cond.before (Jvm.Cond.classLink "java/lang/StringBuilder" (18 : Nat) "java/lang/String") a0 Z = true := hw _ (List.mem_of_getElem? (i := 216) rfl)
theorem w217 (hw : HW a0 Z) : Jvm.Cond.before (Jvm.Cond.methodLink "java/lang/StringBuilder" (137 : Nat) ({ cls := "java/lang/String", name := "<init>", desc := "(Ljava/lang/StringBuilder;)V" } : Jvm.MethodName)) a0 Z = true := hw _ (List.mem_of_getElem? (i := 217) rfl)
theorem w218 (hw : HW a0 Z) : Jvm.Cond.before (Jvm.Cond.instanceMethod ({ cls := "java/lang/String", name := "<init>", desc := "(Ljava/lang/StringBuilder;)V" } : Jvm.MethodName)) a0 Z = true := hw _ (List.mem_of_getElem? (i := 218) rfl)
theorem w219 (hw : HW a0 Z) : Jvm.Cond.before (Jvm.Cond.code ({ cls := "java/lang/String", name := "<init>", desc := "(Ljava/lang/StringBuilder;)V" } : Jvm.MethodName) jdk_42_method_53_code (2 : Nat) (Option.none : Option Jvm.ClassFile.FieldType)) a0 Z = true := hw _ (List.mem_of_getElem? (i := 219) rfl)
theorem w220 (hw : HW a0 Z) : Jvm.Cond.before (Jvm.Cond.methodLink "java/lang/String" (489 : Nat) ({ cls := "java/lang/String", name := "<init>", desc := "(Ljava/lang/AbstractStringBuilder;Ljava/lang/Void;)V" } : Jvm.MethodName)) a0 Z = true := hw _ (List.mem_of_getElem? (i := 220) rfl)
theorem w221 (hw : HW a0 Z) : Jvm.Cond.before (Jvm.Cond.instanceMethod ({ cls := "java/lang/String", name := "<init>", desc := "(Ljava/lang/AbstractStringBuilder;Ljava/lang/Void;)V" } : Jvm.MethodName)) a0 Z = true := hw _ (List.mem_of_getElem? (i := 221) rfl)
theorem w222 (hw : HW a0 Z) : Jvm.Cond.before (Jvm.Cond.code ({ cls := "java/lang/String", name := "<init>", desc := "(Ljava/lang/AbstractStringBuilder;Ljava/lang/Void;)V" } : Jvm.MethodName) jdk_42_method_150_code (5 : Nat) (Option.none : Option Jvm.ClassFile.FieldType)) a0 Z = true := hw _ (List.mem_of_getElem? (i := 222) rfl)
theorem w223 (hw : HW a0 Z) : Jvm.Cond.before (Jvm.Cond.methodLink "java/lang/String" (1 : Nat) ({ cls := "java/lang/Object", name := "<init>", desc := "()V" } : Jvm.MethodName)) a0 Z = true := hw _ (List.mem_of_getElem? (i := 223) rfl)
theorem w224 (hw : HW a0 Z) : Jvm.Cond.before (Jvm.Cond.methodLink "java/lang/String" (552 : Nat) ({ cls := "java/lang/AbstractStringBuilder", name := "getValue", desc := "()[B" } : Jvm.MethodName)) a0 Z = true := hw _ (List.mem_of_getElem? (i := 224) rfl)
theorem w225 (hw : HW a0 Z) : Jvm.Cond.before (Jvm.Cond.declares ({ cls := "java/lang/AbstractStringBuilder", name := "getValue", desc := "()[B" } : Jvm.MethodName)) a0 Z = true := hw _ (List.mem_of_getElem? (i := 225) rfl)
theorem w226 (hw : HW a0 Z) : Jvm.Cond.before (Jvm.Cond.instanceMethod ({ cls := "java/lang/AbstractStringBuilder", name := "getValue", desc := "()[B" } : Jvm.MethodName)) a0 Z = true := hw _ (List.mem_of_getElem? (i := 226) rfl)
theorem w227 (hw : HW a0 Z) : Jvm.Cond.before (Jvm.Cond.selects "java/lang/StringBuilder" ({ cls := "java/lang/AbstractStringBuilder", name := "getValue", desc := "()[B" } : Jvm.MethodName) ({ cls := "java/lang/AbstractStringBuilder", name := "getValue", desc := "()[B" } : Jvm.MethodName)) a0 Z = true := hw _ (List.mem_of_getElem? (i := 227) rfl)
theorem w228 (hw : HW a0 Z) : Jvm.Cond.before (Jvm.Cond.code ({ cls := "java/lang/AbstractStringBuilder", name := "getValue", desc := "()[B" } : Jvm.MethodName) jdk_68_method_64_code (1 : Nat) (Option.some (Jvm.ClassFile.FieldType.array Jvm.ClassFile.FieldType.byte))) a0 Z = true := hw _ (List.mem_of_getElem? (i := 228) rfl)
theorem w229 (hw : HW a0 Z) : Jvm.Cond.before (Jvm.Cond.methodLink "java/lang/String" (549 : Nat) ({ cls := "java/lang/AbstractStringBuilder", name := "length", desc := "()I" } : Jvm.MethodName)) a0 Z = true := hw _ (List.mem_of_getElem? (i := 229) rfl)
theorem w230 (hw : HW a0 Z) : Jvm.Cond.before (Jvm.Cond.selects "java/lang/StringBuilder" ({ cls := "java/lang/AbstractStringBuilder", name := "length", desc := "()I" } : Jvm.MethodName) ({ cls := "java/lang/StringBuilder", name := "length", desc := "()I" } : Jvm.MethodName)) a0 Z = true := hw _ (List.mem_of_getElem? (i := 230) rfl)
theorem w231 (hw : HW a0 Z) : Jvm.Cond.before (Jvm.Cond.methodLink "java/lang/String" (1047 : Nat) ({ cls := "java/lang/AbstractStringBuilder", name := "isLatin1", desc := "()Z" } : Jvm.MethodName)) a0 Z = true := hw _ (List.mem_of_getElem? (i := 231) rfl)
theorem w232 (hw : HW a0 Z) : Jvm.Cond.before (Jvm.Cond.methodLink "java/lang/String" (54 : Nat) ({ cls := "java/util/Arrays", name := "copyOfRange", desc := "([BII)[B" } : Jvm.MethodName)) a0 Z = true := hw _ (List.mem_of_getElem? (i := 232) rfl)
theorem w233 (hw : HW a0 Z) : Jvm.Cond.before (Jvm.Cond.static ({ cls := "java/util/Arrays", name := "copyOfRange", desc := "([BII)[B" } : Jvm.MethodName)) a0 Z = true := hw _ (List.mem_of_getElem? (i := 233) rfl)
theorem w234 (hw : HW a0 Z) : Jvm.Cond.before (Jvm.Cond.code ({ cls := "java/util/Arrays", name := "copyOfRange", desc := "([BII)[B" } : Jvm.MethodName) jdk_65_method_132_code (3 : Nat) (Option.some (Jvm.ClassFile.FieldType.array Jvm.ClassFile.FieldType.byte))) a0 Z = true := hw _ (List.mem_of_getElem? (i := 234) rfl)
theorem w235 (hw : HW a0 Z) : Jvm.Cond.before (Jvm.Cond.methodLink "java/util/Arrays" (339 : Nat) ({ cls := "java/util/Arrays", name := "copyOfRangeByte", desc := "([BII)[B" } : Jvm.MethodName)) a0 Z = true := hw _ (List.mem_of_getElem? (i := 235) rfl)
theorem w236 (hw : HW a0 Z) : Jvm.Cond.before (Jvm.Cond.static ({ cls := "java/util/Arrays", name := "copyOfRangeByte", desc := "([BII)[B" } : Jvm.MethodName)) a0 Z = true := hw _ (List.mem_of_getElem? (i := 236) rfl)
theorem w237 (hw : HW a0 Z) : Jvm.Cond.before (Jvm.Cond.code ({ cls := "java/util/Arrays", name := "copyOfRangeByte", desc := "([BII)[B" } : Jvm.MethodName) jdk_65_method_133_code (5 : Nat) (Option.some (Jvm.ClassFile.FieldType.array Jvm.ClassFile.FieldType.byte))) a0 Z = true := hw _ (List.mem_of_getElem? (i := 237) rfl)
theorem w238 (hw : HW a0 Z) : Jvm.Cond.before (Jvm.Cond.methodLink "java/util/Arrays" (343 : Nat) ({ cls := "java/util/Arrays", name := "checkLength", desc := "(II)V" } : Jvm.MethodName)) a0 Z = true := hw _ (List.mem_of_getElem? (i := 238) rfl)
theorem w239 (hw : HW a0 Z) : Jvm.Cond.before (Jvm.Cond.static ({ cls := "java/util/Arrays", name := "checkLength", desc := "(II)V" } : Jvm.MethodName)) a0 Z = true := hw _ (List.mem_of_getElem? (i := 239) rfl)
theorem w240 (hw : HW a0 Z) : Jvm.Cond.before (Jvm.Cond.code ({ cls := "java/util/Arrays", name := "checkLength", desc := "(II)V" } : Jvm.MethodName) jdk_65_method_131_code (2 : Nat) (Option.none : Option Jvm.ClassFile.FieldType)) a0 Z = true := hw _ (List.mem_of_getElem? (i := 240) rfl)
theorem w241 (hw : HW a0 Z) : Jvm.Cond.before (Jvm.Cond.stringLink "com/example/half_message_commit/halfmessagecommit/protocol/JsonWriterBeginObjectPinLaw" (54 : Nat) "{\"a\":[{") a0 Z = true := hw _ (List.mem_of_getElem? (i := 241) rfl)
theorem w242 (hw : HW a0 Z) : Jvm.Cond.before (Jvm.Cond.methodLink "com/example/half_message_commit/halfmessagecommit/protocol/JsonWriterBeginObjectPinLaw" (48 : Nat) ({ cls := "java/lang/String", name := "equals", desc := "(Ljava/lang/Object;)Z" } : Jvm.MethodName)) a0 Z = true := hw _ (List.mem_of_getElem? (i := 242) rfl)
theorem w243 (hw : HW a0 Z) : Jvm.Cond.before (Jvm.Cond.declares ({ cls := "java/lang/String", name := "equals", desc := "(Ljava/lang/Object;)Z" } : Jvm.MethodName)) a0 Z = true := hw _ (List.mem_of_getElem? (i := 243) rfl)
theorem w244 (hw : HW a0 Z) : Jvm.Cond.before (Jvm.Cond.instanceMethod ({ cls := "java/lang/String", name := "equals", desc := "(Ljava/lang/Object;)Z" } : Jvm.MethodName)) a0 Z = true := hw _ (List.mem_of_getElem? (i := 244) rfl)
theorem w245 (hw : HW a0 Z) : Jvm.Cond.before (Jvm.Cond.selects "java/lang/String" ({ cls := "java/lang/String", name := "equals", desc := "(Ljava/lang/Object;)Z" } : Jvm.MethodName) ({ cls := "java/lang/String", name := "equals", desc := "(Ljava/lang/Object;)Z" } : Jvm.MethodName)) a0 Z = true := hw _ (List.mem_of_getElem? (i := 245) rfl)
theorem w246 (hw : HW a0 Z) : Jvm.Cond.before (Jvm.Cond.code ({ cls := "java/lang/String", name := "equals", desc := "(Ljava/lang/Object;)Z" } : Jvm.MethodName) jdk_42_method_66_code (3 : Nat) (Option.some Jvm.ClassFile.FieldType.boolean)) a0 Z = true := hw _ (List.mem_of_getElem? (i := 246) rfl)
theorem w247 (hw : HW a0 Z) : Jvm.Cond.before (Jvm.Cond.classLink "java/lang/String" (10 : Nat) "java/lang/String") a0 Z = true := hw _ (List.mem_of_getElem? (i := 247) rfl)
theorem w248 (hw : HW a0 Z) : Jvm.Cond.before (Jvm.Cond.methodLink "java/lang/String" (541 : Nat) ({ cls := "java/lang/StringLatin1", name := "equals", desc := "([B[B)Z" } : Jvm.MethodName)) a0 Z = true := hw _ (List.mem_of_getElem? (i := 248) rfl)
theorem w249 (hw : HW a0 Z) : Jvm.Cond.before (Jvm.Cond.static ({ cls := "java/lang/StringLatin1", name := "equals", desc := "([B[B)Z" } : Jvm.MethodName)) a0 Z = true := hw _ (List.mem_of_getElem? (i := 249) rfl)
theorem w250 (hw : HW a0 Z) : Jvm.Cond.before (Jvm.Cond.code ({ cls := "java/lang/StringLatin1", name := "equals", desc := "([B[B)Z" } : Jvm.MethodName) jdk_43_method_13_code (3 : Nat) (Option.some Jvm.ClassFile.FieldType.boolean)) a0 Z = true := hw _ (List.mem_of_getElem? (i := 250) rfl)
theorem w251 (hw : HW a0 Z) : Jvm.Cond.before (Jvm.Cond.methodLink "com/example/half_message_commit/halfmessagecommit/protocol/JsonWriterBeginObjectPinLaw" (39 : Nat) ({ cls := "com/example/half_message_commit/halfmessagecommit/protocol/JsonWriter", name := "member", desc := "(Ljava/lang/String;Ljava/lang/String;)V" } : Jvm.MethodName)) a0 Z = true := hw _ (List.mem_of_getElem? (i := 251) rfl)
theorem w252 (hw : HW a0 Z) : Jvm.Cond.before (Jvm.Cond.declares ({ cls := "com/example/half_message_commit/halfmessagecommit/protocol/JsonWriter", name := "member", desc := "(Ljava/lang/String;Ljava/lang/String;)V" } : Jvm.MethodName)) a0 Z = true := hw _ (List.mem_of_getElem? (i := 252) rfl)
theorem w253 (hw : HW a0 Z) : Jvm.Cond.before (Jvm.Cond.instanceMethod ({ cls := "com/example/half_message_commit/halfmessagecommit/protocol/JsonWriter", name := "member", desc := "(Ljava/lang/String;Ljava/lang/String;)V" } : Jvm.MethodName)) a0 Z = true := hw _ (List.mem_of_getElem? (i := 253) rfl)
theorem w254 (hw : HW a0 Z) : Jvm.Cond.before (Jvm.Cond.selects "com/example/half_message_commit/halfmessagecommit/protocol/JsonWriter" ({ cls := "com/example/half_message_commit/halfmessagecommit/protocol/JsonWriter", name := "member", desc := "(Ljava/lang/String;Ljava/lang/String;)V" } : Jvm.MethodName) ({ cls := "com/example/half_message_commit/halfmessagecommit/protocol/JsonWriter", name := "member", desc := "(Ljava/lang/String;Ljava/lang/String;)V" } : Jvm.MethodName)) a0 Z = true := hw _ (List.mem_of_getElem? (i := 254) rfl)
theorem w255 (hw : HW a0 Z) : Jvm.Cond.before (Jvm.Cond.code ({ cls := "com/example/half_message_commit/halfmessagecommit/protocol/JsonWriter", name := "member", desc := "(Ljava/lang/String;Ljava/lang/String;)V" } : Jvm.MethodName) prog_24_method_7_code (3 : Nat) (Option.none : Option Jvm.ClassFile.FieldType)) a0 Z = true := hw _ (List.mem_of_getElem? (i := 255) rfl)
theorem w256 (hw : HW a0 Z) : Jvm.Cond.before (Jvm.Cond.stringLink "com/example/half_message_commit/halfmessagecommit/protocol/JsonWriter" (44 : Nat) "null") a0 Z = true := hw _ (List.mem_of_getElem? (i := 256) rfl)
theorem w257 (hw : HW a0 Z) : Jvm.Cond.before (Jvm.Cond.methodLink "com/example/half_message_commit/halfmessagecommit/protocol/JsonWriter" (46 : Nat) ({ cls := "java/lang/StringBuilder", name := "append", desc := "(Ljava/lang/String;)Ljava/lang/StringBuilder;" } : Jvm.MethodName)) a0 Z = true := hw _ (List.mem_of_getElem? (i := 257) rfl)
theorem w258 (hw : HW a0 Z) : Jvm.Cond.before (Jvm.Cond.declares ({ cls := "java/lang/StringBuilder", name := "append", desc := "(Ljava/lang/String;)Ljava/lang/StringBuilder;" } : Jvm.MethodName)) a0 Z = true := hw _ (List.mem_of_getElem? (i := 258) rfl)
theorem w259 (hw : HW a0 Z) : Jvm.Cond.before (Jvm.Cond.instanceMethod ({ cls := "java/lang/StringBuilder", name := "append", desc := "(Ljava/lang/String;)Ljava/lang/StringBuilder;" } : Jvm.MethodName)) a0 Z = true := hw _ (List.mem_of_getElem? (i := 259) rfl)
theorem w260 (hw : HW a0 Z) : Jvm.Cond.before (Jvm.Cond.selects "java/lang/StringBuilder" ({ cls := "java/lang/StringBuilder", name := "append", desc := "(Ljava/lang/String;)Ljava/lang/StringBuilder;" } : Jvm.MethodName) ({ cls := "java/lang/StringBuilder", name := "append", desc := "(Ljava/lang/String;)Ljava/lang/StringBuilder;" } : Jvm.MethodName)) a0 Z = true := hw _ (List.mem_of_getElem? (i := 260) rfl)
theorem w261 (hw : HW a0 Z) : Jvm.Cond.before (Jvm.Cond.code ({ cls := "java/lang/StringBuilder", name := "append", desc := "(Ljava/lang/String;)Ljava/lang/StringBuilder;" } : Jvm.MethodName) jdk_67_method_7_code (2 : Nat) (Option.some (Jvm.ClassFile.FieldType.object "java/lang/StringBuilder"))) a0 Z = true := hw _ (List.mem_of_getElem? (i := 261) rfl)
theorem w262 (hw : HW a0 Z) : Jvm.Cond.before (Jvm.Cond.methodLink "java/lang/StringBuilder" (29 : Nat) ({ cls := "java/lang/AbstractStringBuilder", name := "append", desc := "(Ljava/lang/String;)Ljava/lang/AbstractStringBuilder;" } : Jvm.MethodName)) a0 Z = true := hw _ (List.mem_of_getElem? (i := 262) rfl)
theorem w263 (hw : HW a0 Z) : Jvm.Cond.before (Jvm.Cond.instanceMethod ({ cls := "java/lang/AbstractStringBuilder", name := "append", desc := "(Ljava/lang/String;)Ljava/lang/AbstractStringBuilder;" } : Jvm.MethodName)) a0 Z = true := hw _ (List.mem_of_getElem? (i := 263) rfl)
theorem w265 (hw : HW a0 Z) : Jvm.Cond.before (Jvm.Cond.code ({ cls := "java/lang/AbstractStringBuilder", name := "append", desc := "(Ljava/lang/String;)Ljava/lang/AbstractStringBuilder;" } : Jvm.MethodName) jdk_68_method_22_code (3 : Nat) (Option.some (Jvm.ClassFile.FieldType.object "java/lang/AbstractStringBuilder"))) a0 Z = true := hw _ (List.mem_of_getElem? (i := 265) rfl)
theorem w266 (hw : HW a0 Z) : Jvm.Cond.before (Jvm.Cond.methodLink "java/lang/AbstractStringBuilder" (32 : Nat) ({ cls := "java/lang/String", name := "length", desc := "()I" } : Jvm.MethodName)) a0 Z = true := hw _ (List.mem_of_getElem? (i := 266) rfl)
theorem w267 (hw : HW a0 Z) : Jvm.Cond.before (Jvm.Cond.methodLink "java/lang/AbstractStringBuilder" (208 : Nat) ({ cls := "java/lang/AbstractStringBuilder", name := "putStringAt", desc := "(ILjava/lang/String;)V" } : Jvm.MethodName)) a0 Z = true := hw _ (List.mem_of_getElem? (i := 267) rfl)
theorem w268 (hw : HW a0 Z) : Jvm.Cond.before (Jvm.Cond.instanceMethod ({ cls := "java/lang/AbstractStringBuilder", name := "putStringAt", desc := "(ILjava/lang/String;)V" } : Jvm.MethodName)) a0 Z = true := hw _ (List.mem_of_getElem? (i := 268) rfl)
theorem w269 (hw : HW a0 Z) : Jvm.Cond.before (Jvm.Cond.privateMethod ({ cls := "java/lang/AbstractStringBuilder", name := "putStringAt", desc := "(ILjava/lang/String;)V" } : Jvm.MethodName)) a0 Z = true := hw _ (List.mem_of_getElem? (i := 269) rfl)
theorem w270 (hw : HW a0 Z) : Jvm.Cond.before (Jvm.Cond.selects "java/lang/StringBuilder" ({ cls := "java/lang/AbstractStringBuilder", name := "putStringAt", desc := "(ILjava/lang/String;)V" } : Jvm.MethodName) ({ cls := "java/lang/AbstractStringBuilder", name := "putStringAt", desc := "(ILjava/lang/String;)V" } : Jvm.MethodName)) a0 Z = true := hw _ (List.mem_of_getElem? (i := 270) rfl)
theorem w271 (hw : HW a0 Z) : Jvm.Cond.before (Jvm.Cond.code ({ cls := "java/lang/AbstractStringBuilder", name := "putStringAt", desc := "(ILjava/lang/String;)V" } : Jvm.MethodName) jdk_68_method_73_code (3 : Nat) (Option.none : Option Jvm.ClassFile.FieldType)) a0 Z = true := hw _ (List.mem_of_getElem? (i := 271) rfl)
theorem w272 (hw : HW a0 Z) : Jvm.Cond.before (Jvm.Cond.methodLink "java/lang/AbstractStringBuilder" (397 : Nat) ({ cls := "java/lang/AbstractStringBuilder", name := "inflateIfNeededFor", desc := "(Ljava/lang/String;)V" } : Jvm.MethodName)) a0 Z = true := hw _ (List.mem_of_getElem? (i := 272) rfl)
theorem w273 (hw : HW a0 Z) : Jvm.Cond.before (Jvm.Cond.instanceMethod ({ cls := "java/lang/AbstractStringBuilder", name := "inflateIfNeededFor", desc := "(Ljava/lang/String;)V" } : Jvm.MethodName)) a0 Z = true := hw _ (List.mem_of_getElem? (i := 273) rfl)
theorem w274 (hw : HW a0 Z) : Jvm.Cond.before (Jvm.Cond.privateMethod ({ cls := "java/lang/AbstractStringBuilder", name := "inflateIfNeededFor", desc := "(Ljava/lang/String;)V" } : Jvm.MethodName)) a0 Z = true := hw _ (List.mem_of_getElem? (i := 274) rfl)
theorem w275 (hw : HW a0 Z) : Jvm.Cond.before (Jvm.Cond.selects "java/lang/StringBuilder" ({ cls := "java/lang/AbstractStringBuilder", name := "inflateIfNeededFor", desc := "(Ljava/lang/String;)V" } : Jvm.MethodName) ({ cls := "java/lang/AbstractStringBuilder", name := "inflateIfNeededFor", desc := "(Ljava/lang/String;)V" } : Jvm.MethodName)) a0 Z = true := hw _ (List.mem_of_getElem? (i := 275) rfl)
theorem w276 (hw : HW a0 Z) : Jvm.Cond.before (Jvm.Cond.code ({ cls := "java/lang/AbstractStringBuilder", name := "inflateIfNeededFor", desc := "(Ljava/lang/String;)V" } : Jvm.MethodName) jdk_68_method_71_code (2 : Nat) (Option.none : Option Jvm.ClassFile.FieldType)) a0 Z = true := hw _ (List.mem_of_getElem? (i := 276) rfl)
theorem w277 (hw : HW a0 Z) : Jvm.Cond.before (Jvm.Cond.methodLink "java/lang/AbstractStringBuilder" (40 : Nat) ({ cls := "java/lang/String", name := "coder", desc := "()B" } : Jvm.MethodName)) a0 Z = true := hw _ (List.mem_of_getElem? (i := 277) rfl)
theorem w278 (hw : HW a0 Z) : Jvm.Cond.before (Jvm.Cond.methodLink "java/lang/AbstractStringBuilder" (399 : Nat) ({ cls := "java/lang/String", name := "getBytes", desc := "([BIB)V" } : Jvm.MethodName)) a0 Z = true := hw _ (List.mem_of_getElem? (i := 278) rfl)
theorem w279 (hw : HW a0 Z) : Jvm.Cond.before (Jvm.Cond.declares ({ cls := "java/lang/String", name := "getBytes", desc := "([BIB)V" } : Jvm.MethodName)) a0 Z = true := hw _ (List.mem_of_getElem? (i := 279) rfl)
theorem w280 (hw : HW a0 Z) : Jvm.Cond.before (Jvm.Cond.instanceMethod ({ cls := "java/lang/String", name := "getBytes", desc := "([BIB)V" } : Jvm.MethodName)) a0 Z = true := hw _ (List.mem_of_getElem? (i := 280) rfl)
theorem w281 (hw : HW a0 Z) : Jvm.Cond.before (Jvm.Cond.selects "java/lang/String" ({ cls := "java/lang/String", name := "getBytes", desc := "([BIB)V" } : Jvm.MethodName) ({ cls := "java/lang/String", name := "getBytes", desc := "([BIB)V" } : Jvm.MethodName)) a0 Z = true := hw _ (List.mem_of_getElem? (i := 281) rfl)
theorem w282 (hw : HW a0 Z) : Jvm.Cond.before (Jvm.Cond.code ({ cls := "java/lang/String", name := "getBytes", desc := "([BIB)V" } : Jvm.MethodName) jdk_42_method_147_code (4 : Nat) (Option.none : Option Jvm.ClassFile.FieldType)) a0 Z = true := hw _ (List.mem_of_getElem? (i := 282) rfl)
theorem w283 (hw : HW a0 Z) : Jvm.Cond.before (Jvm.Cond.methodLink "java/lang/String" (212 : Nat) ({ cls := "java/lang/System", name := "arraycopy", desc := "(Ljava/lang/Object;ILjava/lang/Object;II)V" } : Jvm.MethodName)) a0 Z = true := hw _ (List.mem_of_getElem? (i := 283) rfl)
theorem w284 (hw : HW a0 Z) : Jvm.Cond.before (Jvm.Cond.stringLink "com/example/half_message_commit/halfmessagecommit/protocol/JsonWriterBeginObjectPinLaw" (64 : Nat) "{\"a\":null,{") a0 Z = true := hw _ (List.mem_of_getElem? (i := 284) rfl)
theorem w285 (hw : HW a0 Z) : Jvm.Cond.before (Jvm.Cond.stringLink "com/example/half_message_commit/halfmessagecommit/protocol/JsonWriterBeginObjectPinLaw" (52 : Nat) "{{") a0 Z = true := hw _ (List.mem_of_getElem? (i := 285) rfl)
theorem w286 (hw : HW a0 Z) : Jvm.Cond.before (Jvm.Cond.methodLink "com/example/half_message_commit/halfmessagecommit/protocol/JsonWriterBeginObjectPinLaw" (24 : Nat) ({ cls := "com/example/half_message_commit/halfmessagecommit/protocol/JsonWriter", name := "endObject", desc := "()V" } : Jvm.MethodName)) a0 Z = true := hw _ (List.mem_of_getElem? (i := 286) rfl)
theorem w287 (hw : HW a0 Z) : Jvm.Cond.before (Jvm.Cond.declares ({ cls := "com/example/half_message_commit/halfmessagecommit/protocol/JsonWriter", name := "endObject", desc := "()V" } : Jvm.MethodName)) a0 Z = true := hw _ (List.mem_of_getElem? (i := 287) rfl)
theorem w288 (hw : HW a0 Z) : Jvm.Cond.before (Jvm.Cond.instanceMethod ({ cls := "com/example/half_message_commit/halfmessagecommit/protocol/JsonWriter", name := "endObject", desc := "()V" } : Jvm.MethodName)) a0 Z = true := hw _ (List.mem_of_getElem? (i := 288) rfl)
theorem w289 (hw : HW a0 Z) : Jvm.Cond.before (Jvm.Cond.selects "com/example/half_message_commit/halfmessagecommit/protocol/JsonWriter" ({ cls := "com/example/half_message_commit/halfmessagecommit/protocol/JsonWriter", name := "endObject", desc := "()V" } : Jvm.MethodName) ({ cls := "com/example/half_message_commit/halfmessagecommit/protocol/JsonWriter", name := "endObject", desc := "()V" } : Jvm.MethodName)) a0 Z = true := hw _ (List.mem_of_getElem? (i := 289) rfl)
theorem w290 (hw : HW a0 Z) : Jvm.Cond.before (Jvm.Cond.code ({ cls := "com/example/half_message_commit/halfmessagecommit/protocol/JsonWriter", name := "endObject", desc := "()V" } : Jvm.MethodName) prog_24_method_4_code (1 : Nat) (Option.none : Option Jvm.ClassFile.FieldType)) a0 Z = true := hw _ (List.mem_of_getElem? (i := 290) rfl)
theorem w291 (hw : HW a0 Z) : Jvm.Cond.before (Jvm.Cond.stringLink "com/example/half_message_commit/halfmessagecommit/protocol/JsonWriterBeginObjectPinLaw" (56 : Nat) "{},{") a0 Z = true := hw _ (List.mem_of_getElem? (i := 291) rfl)
theorem w292 (hw : HW a0 Z) : Jvm.Cond.before (Jvm.Cond.stringLink "com/example/half_message_commit/halfmessagecommit/protocol/JsonWriterBeginObjectPinLaw" (46 : Nat) "{") a0 Z = true := hw _ (List.mem_of_getElem? (i := 292) rfl)
theorem w293 (hw : HW a0 Z) : Jvm.Cond.before (Jvm.Cond.methodLink "com/example/half_message_commit/halfmessagecommit/protocol/JsonWriterBeginObjectPinLaw" (30 : Nat) ({ cls := "com/example/half_message_commit/halfmessagecommit/protocol/JsonWriter", name := "member", desc := "(Ljava/lang/String;Z)V" } : Jvm.MethodName)) a0 Z = true := hw _ (List.mem_of_getElem? (i := 293) rfl)
theorem w294 (hw : HW a0 Z) : Jvm.Cond.before (Jvm.Cond.declares ({ cls := "com/example/half_message_commit/halfmessagecommit/protocol/JsonWriter", name := "member", desc := "(Ljava/lang/String;Z)V" } : Jvm.MethodName)) a0 Z = true := hw _ (List.mem_of_getElem? (i := 294) rfl)
theorem w295 (hw : HW a0 Z) : Jvm.Cond.before (Jvm.Cond.instanceMethod ({ cls := "com/example/half_message_commit/halfmessagecommit/protocol/JsonWriter", name := "member", desc := "(Ljava/lang/String;Z)V" } : Jvm.MethodName)) a0 Z = true := hw _ (List.mem_of_getElem? (i := 295) rfl)
theorem w296 (hw : HW a0 Z) : Jvm.Cond.before (Jvm.Cond.selects "com/example/half_message_commit/halfmessagecommit/protocol/JsonWriter" ({ cls := "com/example/half_message_commit/halfmessagecommit/protocol/JsonWriter", name := "member", desc := "(Ljava/lang/String;Z)V" } : Jvm.MethodName) ({ cls := "com/example/half_message_commit/halfmessagecommit/protocol/JsonWriter", name := "member", desc := "(Ljava/lang/String;Z)V" } : Jvm.MethodName)) a0 Z = true := hw _ (List.mem_of_getElem? (i := 296) rfl)
theorem w297 (hw : HW a0 Z) : Jvm.Cond.before (Jvm.Cond.code ({ cls := "com/example/half_message_commit/halfmessagecommit/protocol/JsonWriter", name := "member", desc := "(Ljava/lang/String;Z)V" } : Jvm.MethodName) prog_24_method_9_code (3 : Nat) (Option.none : Option Jvm.ClassFile.FieldType)) a0 Z = true := hw _ (List.mem_of_getElem? (i := 297) rfl)
theorem w298 (hw : HW a0 Z) : Jvm.Cond.before (Jvm.Cond.methodLink "com/example/half_message_commit/halfmessagecommit/protocol/JsonWriter" (55 : Nat) ({ cls := "java/lang/StringBuilder", name := "append", desc := "(Z)Ljava/lang/StringBuilder;" } : Jvm.MethodName)) a0 Z = true := hw _ (List.mem_of_getElem? (i := 298) rfl)
theorem w299 (hw : HW a0 Z) : Jvm.Cond.before (Jvm.Cond.declares ({ cls := "java/lang/StringBuilder", name := "append", desc := "(Z)Ljava/lang/StringBuilder;" } : Jvm.MethodName)) a0 Z = true := hw _ (List.mem_of_getElem? (i := 299) rfl)
theorem w300 (hw : HW a0 Z) : Jvm.Cond.before (Jvm.Cond.instanceMethod ({ cls := "java/lang/StringBuilder", name := "append", desc := "(Z)Ljava/lang/StringBuilder;" } : Jvm.MethodName)) a0 Z = true := hw _ (List.mem_of_getElem? (i := 300) rfl)
theorem w301 (hw : HW a0 Z) : Jvm.Cond.before (Jvm.Cond.selects "java/lang/StringBuilder" ({ cls := "java/lang/StringBuilder", name := "append", desc := "(Z)Ljava/lang/StringBuilder;" } : Jvm.MethodName) ({ cls := "java/lang/StringBuilder", name := "append", desc := "(Z)Ljava/lang/StringBuilder;" } : Jvm.MethodName)) a0 Z = true := hw _ (List.mem_of_getElem? (i := 301) rfl)
theorem w302 (hw : HW a0 Z) : Jvm.Cond.before (Jvm.Cond.code ({ cls := "java/lang/StringBuilder", name := "append", desc := "(Z)Ljava/lang/StringBuilder;" } : Jvm.MethodName) jdk_67_method_13_code (2 : Nat) (Option.some (Jvm.ClassFile.FieldType.object "java/lang/StringBuilder"))) a0 Z = true := hw _ (List.mem_of_getElem? (i := 302) rfl)
theorem w303 (hw : HW a0 Z) : Jvm.Cond.before (Jvm.Cond.methodLink "java/lang/StringBuilder" (47 : Nat) ({ cls := "java/lang/AbstractStringBuilder", name := "append", desc := "(Z)Ljava/lang/AbstractStringBuilder;" } : Jvm.MethodName)) a0 Z = true := hw _ (List.mem_of_getElem? (i := 303) rfl)
theorem w304 (hw : HW a0 Z) : Jvm.Cond.before (Jvm.Cond.instanceMethod ({ cls := "java/lang/AbstractStringBuilder", name := "append", desc := "(Z)Ljava/lang/AbstractStringBuilder;" } : Jvm.MethodName)) a0 Z = true := hw _ (List.mem_of_getElem? (i := 304) rfl)
theorem w306 (hw : HW a0 Z) : Jvm.Cond.before (Jvm.Cond.code ({ cls := "java/lang/AbstractStringBuilder", name := "append", desc := "(Z)Ljava/lang/AbstractStringBuilder;" } : Jvm.MethodName) jdk_68_method_30_code (4 : Nat) (Option.some (Jvm.ClassFile.FieldType.object "java/lang/AbstractStringBuilder"))) a0 Z = true := hw _ (List.mem_of_getElem? (i := 306) rfl)
theorem w307 (hw : HW a0 Z) : Jvm.Cond.before (Jvm.Cond.stringLink "com/example/half_message_commit/halfmessagecommit/protocol/JsonWriterBeginObjectPinLaw" (60 : Nat) "{\"a\":true,{") a0 Z = true := hw _ (List.mem_of_getElem? (i := 307) rfl)
theorem w308 (hw : HW a0 Z) : Jvm.Cond.before (Jvm.Cond.methodLink "com/example/half_message_commit/halfmessagecommit/protocol/JsonWriterBeginObjectPinLaw" (27 : Nat) ({ cls := "com/example/half_message_commit/halfmessagecommit/protocol/JsonWriter", name := "endArray", desc := "()V" } : Jvm.MethodName)) a0 Z = true := hw _ (List.mem_of_getElem? (i := 308) rfl)
theorem w309 (hw : HW a0 Z) : Jvm.Cond.before (Jvm.Cond.declares ({ cls := "com/example/half_message_commit/halfmessagecommit/protocol/JsonWriter", name := "endArray", desc := "()V" } : Jvm.MethodName)) a0 Z = true := hw _ (List.mem_of_getElem? (i := 309) rfl)
theorem w310 (hw : HW a0 Z) : Jvm.Cond.before (Jvm.Cond.instanceMethod ({ cls := "com/example/half_message_commit/halfmessagecommit/protocol/JsonWriter", name := "endArray", desc := "()V" } : Jvm.MethodName)) a0 Z = true := hw _ (List.mem_of_getElem? (i := 310) rfl)
theorem w311 (hw : HW a0 Z) : Jvm.Cond.before (Jvm.Cond.selects "com/example/half_message_commit/halfmessagecommit/protocol/JsonWriter" ({ cls := "com/example/half_message_commit/halfmessagecommit/protocol/JsonWriter", name := "endArray", desc := "()V" } : Jvm.MethodName) ({ cls := "com/example/half_message_commit/halfmessagecommit/protocol/JsonWriter", name := "endArray", desc := "()V" } : Jvm.MethodName)) a0 Z = true := hw _ (List.mem_of_getElem? (i := 311) rfl)
theorem w312 (hw : HW a0 Z) : Jvm.Cond.before (Jvm.Cond.code ({ cls := "com/example/half_message_commit/halfmessagecommit/protocol/JsonWriter", name := "endArray", desc := "()V" } : Jvm.MethodName) prog_24_method_6_code (1 : Nat) (Option.none : Option Jvm.ClassFile.FieldType)) a0 Z = true := hw _ (List.mem_of_getElem? (i := 312) rfl)
theorem w313 (hw : HW a0 Z) : Jvm.Cond.before (Jvm.Cond.stringLink "com/example/half_message_commit/halfmessagecommit/protocol/JsonWriterBeginObjectPinLaw" (58 : Nat) "{\"a\":[],{") a0 Z = true := hw _ (List.mem_of_getElem? (i := 313) rfl)
theorem w314 (hw : HW a0 Z) : Jvm.Cond.before (Jvm.Cond.methodLink "com/example/half_message_commit/halfmessagecommit/protocol/JsonWriterBeginObjectPinLaw" (34 : Nat) ({ cls := "com/example/half_message_commit/halfmessagecommit/protocol/JsonWriter", name := "member", desc := "(Ljava/lang/String;J)V" } : Jvm.MethodName)) a0 Z = true := hw _ (List.mem_of_getElem? (i := 314) rfl)
theorem w315 (hw : HW a0 Z) : Jvm.Cond.before (Jvm.Cond.declares ({ cls := "com/example/half_message_commit/halfmessagecommit/protocol/JsonWriter", name := "member", desc := "(Ljava/lang/String;J)V" } : Jvm.MethodName)) a0 Z = true := hw _ (List.mem_of_getElem? (i := 315) rfl)
theorem w316 (hw : HW a0 Z) : Jvm.Cond.before (Jvm.Cond.instanceMethod ({ cls := "com/example/half_message_commit/halfmessagecommit/protocol/JsonWriter", name := "member", desc := "(Ljava/lang/String;J)V" } : Jvm.MethodName)) a0 Z = true := hw _ (List.mem_of_getElem? (i := 316) rfl)
theorem w317 (hw : HW a0 Z) : Jvm.Cond.before (Jvm.Cond.selects "com/example/half_message_commit/halfmessagecommit/protocol/JsonWriter" ({ cls := "com/example/half_message_commit/halfmessagecommit/protocol/JsonWriter", name := "member", desc := "(Ljava/lang/String;J)V" } : Jvm.MethodName) ({ cls := "com/example/half_message_commit/halfmessagecommit/protocol/JsonWriter", name := "member", desc := "(Ljava/lang/String;J)V" } : Jvm.MethodName)) a0 Z = true := hw _ (List.mem_of_getElem? (i := 317) rfl)
theorem w318 (hw : HW a0 Z) : Jvm.Cond.before (Jvm.Cond.code ({ cls := "com/example/half_message_commit/halfmessagecommit/protocol/JsonWriter", name := "member", desc := "(Ljava/lang/String;J)V" } : Jvm.MethodName) prog_24_method_8_code (4 : Nat) (Option.none : Option Jvm.ClassFile.FieldType)) a0 Z = true := hw _ (List.mem_of_getElem? (i := 318) rfl)
theorem w319 (hw : HW a0 Z) : Jvm.Cond.before (Jvm.Cond.methodLink "com/example/half_message_commit/halfmessagecommit/protocol/JsonWriter" (52 : Nat) ({ cls := "java/lang/StringBuilder", name := "append", desc := "(J)Ljava/lang/StringBuilder;" } : Jvm.MethodName)) a0 Z = true := hw _ (List.mem_of_getElem? (i := 319) rfl)
theorem w320 (hw : HW a0 Z) : Jvm.Cond.before (Jvm.Cond.declares ({ cls := "java/lang/StringBuilder", name := "append", desc := "(J)Ljava/lang/StringBuilder;" } : Jvm.MethodName)) a0 Z = true := hw _ (List.mem_of_getElem? (i := 320) rfl)
theorem w321 (hw : HW a0 Z) : Jvm.Cond.before (Jvm.Cond.instanceMethod ({ cls := "java/lang/StringBuilder", name := "append", desc := "(J)Ljava/lang/StringBuilder;" } : Jvm.MethodName)) a0 Z = true := hw _ (List.mem_of_getElem? (i := 321) rfl)
theorem w322 (hw : HW a0 Z) : Jvm.Cond.before (Jvm.Cond.selects "java/lang/StringBuilder" ({ cls := "java/lang/StringBuilder", name := "append", desc := "(J)Ljava/lang/StringBuilder;" } : Jvm.MethodName) ({ cls := "java/lang/StringBuilder", name := "append", desc := "(J)Ljava/lang/StringBuilder;" } : Jvm.MethodName)) a0 Z = true := hw _ (List.mem_of_getElem? (i := 322) rfl)
theorem w323 (hw : HW a0 Z) : Jvm.Cond.before (Jvm.Cond.code ({ cls := "java/lang/StringBuilder", name := "append", desc := "(J)Ljava/lang/StringBuilder;" } : Jvm.MethodName) jdk_67_method_16_code (3 : Nat) (Option.some (Jvm.ClassFile.FieldType.object "java/lang/StringBuilder"))) a0 Z = true := hw _ (List.mem_of_getElem? (i := 323) rfl)
theorem w324 (hw : HW a0 Z) : Jvm.Cond.before (Jvm.Cond.methodLink "java/lang/StringBuilder" (56 : Nat) ({ cls := "java/lang/AbstractStringBuilder", name := "append", desc := "(J)Ljava/lang/AbstractStringBuilder;" } : Jvm.MethodName)) a0 Z = true := hw _ (List.mem_of_getElem? (i := 324) rfl)
theorem w325 (hw : HW a0 Z) : Jvm.Cond.before (Jvm.Cond.instanceMethod ({ cls := "java/lang/AbstractStringBuilder", name := "append", desc := "(J)Ljava/lang/AbstractStringBuilder;" } : Jvm.MethodName)) a0 Z = true := hw _ (List.mem_of_getElem? (i := 325) rfl)
theorem w327 (hw : HW a0 Z) : Jvm.Cond.before (Jvm.Cond.code ({ cls := "java/lang/AbstractStringBuilder", name := "append", desc := "(J)Ljava/lang/AbstractStringBuilder;" } : Jvm.MethodName) jdk_68_method_33_code (5 : Nat) (Option.some (Jvm.ClassFile.FieldType.object "java/lang/AbstractStringBuilder"))) a0 Z = true := hw _ (List.mem_of_getElem? (i := 327) rfl)
theorem w328 (hw : HW a0 Z) : Jvm.Cond.before (Jvm.Cond.methodLink "java/lang/AbstractStringBuilder" (254 : Nat) ({ cls := "java/lang/Long", name := "stringSize", desc := "(J)I" } : Jvm.MethodName)) a0 Z = true := hw _ (List.mem_of_getElem? (i := 328) rfl)
theorem w329 (hw : HW a0 Z) : Jvm.Cond.before (Jvm.Cond.static ({ cls := "java/lang/Long", name := "stringSize", desc := "(J)I" } : Jvm.MethodName)) a0 Z = true := hw _ (List.mem_of_getElem? (i := 329) rfl)
theorem w330 (hw : HW a0 Z) : Jvm.Cond.before (Jvm.Cond.initialized "java/lang/Long") a0 Z = true := hw _ (List.mem_of_getElem? (i := 330) rfl)
theorem w331 (hw : HW a0 Z) : Jvm.Cond.before (Jvm.Cond.code ({ cls := "java/lang/Long", name := "stringSize", desc := "(J)I" } : Jvm.MethodName) jdk_35_method_15_code (6 : Nat) (Option.some Jvm.ClassFile.FieldType.int)) a0 Z = true := hw _ (List.mem_of_getElem? (i := 331) rfl)
theorem w332 (hw : HW a0 Z) : Jvm.Cond.before (Jvm.Cond.constantLong "java/lang/Long" (140 : Nat) (-10 : Int64)) a0 Z = true := hw _ (List.mem_of_getElem? (i := 332) rfl)
theorem w333 (hw : HW a0 Z) : Jvm.Cond.before (Jvm.Cond.constantLong "java/lang/Long" (53 : Nat) (10 : Int64)) a0 Z = true := hw _ (List.mem_of_getElem? (i := 333) rfl)
theorem w334 (hw : HW a0 Z) : Jvm.Cond.before (Jvm.Cond.methodLink "java/lang/AbstractStringBuilder" (259 : Nat) ({ cls := "java/lang/Long", name := "getChars", desc := "(JI[B)I" } : Jvm.MethodName)) a0 Z = true := hw _ (List.mem_of_getElem? (i := 334) rfl)
theorem w335 (hw : HW a0 Z) : Jvm.Cond.before (Jvm.Cond.static ({ cls := "java/lang/Long", name := "getChars", desc := "(JI[B)I" } : Jvm.MethodName)) a0 Z = true := hw _ (List.mem_of_getElem? (i := 335) rfl)
theorem w336 (hw : HW a0 Z) : Jvm.Cond.before (Jvm.Cond.code ({ cls := "java/lang/Long", name := "getChars", desc := "(JI[B)I" } : Jvm.MethodName) jdk_35_method_14_code (11 : Nat) (Option.some Jvm.ClassFile.FieldType.int)) a0 Z = true := hw _ (List.mem_of_getElem? (i := 336) rfl)
theorem w337 (hw : HW a0 Z) : Jvm.Cond.before (Jvm.Cond.constantLong "java/lang/Long" (129 : Nat) (-2147483648 : Int64)) a0 Z = true := hw _ (List.mem_of_getElem? (i := 337) rfl)
theorem w338 (hw : HW a0 Z) : Jvm.Cond.before (Jvm.Cond.fieldLink "java/lang/Long" (133 : Nat) "java/lang/Integer" "DigitOnes" "[B") a0 Z = true := hw _ (List.mem_of_getElem? (i := 338) rfl)
theorem w340 (hw : HW a0 Z) : Jvm.Cond.before (Jvm.Cond.fieldLink "java/lang/Long" (137 : Nat) "java/lang/Integer" "DigitTens" "[B") a0 Z = true := hw _ (List.mem_of_getElem? (i := 340) rfl)
theorem w341 (hw : HW a0 Z) : Jvm.Cond.before (Jvm.Cond.methodLink "com/example/half_message_commit/halfmessagecommit/protocol/JsonWriterBeginObjectPinLaw" (66 : Nat) ({ cls := "java/lang/String", name := "length", desc := "()I" } : Jvm.MethodName)) a0 Z = true := hw _ (List.mem_of_getElem? (i := 341) rfl)
theorem w342 (hw : HW a0 Z) : Jvm.Cond.before (Jvm.Cond.methodLink "com/example/half_message_commit/halfmessagecommit/protocol/JsonWriterBeginObjectPinLaw" (70 : Nat) ({ cls := "java/lang/String", name := "charAt", desc := "(I)C" } : Jvm.MethodName)) a0 Z = true := hw _ (List.mem_of_getElem? (i := 342) rfl)
theorem w343 (hw : HW a0 Z) : Jvm.Cond.before (Jvm.Cond.methodLink "java/util/Arrays" (310 : Nat) ({ cls := "[B", name := "clone", desc := "()Ljava/lang/Object;" } : Jvm.MethodName)) a0 Z = true := hw _ (List.mem_of_getElem? (i := 343) rfl)
theorem w344 (hw : HW a0 Z) : Jvm.Cond.before (Jvm.Cond.sameMethod "[B" "java/lang/Object" "clone" "()Ljava/lang/Object;") a0 Z = true := hw _ (List.mem_of_getElem? (i := 344) rfl)
theorem w346 (hw : HW a0 Z) : Jvm.Cond.before (Jvm.Cond.instanceMethod ({ cls := "java/lang/Object", name := "clone", desc := "()Ljava/lang/Object;" } : Jvm.MethodName)) a0 Z = true := hw _ (List.mem_of_getElem? (i := 346) rfl)
theorem w347 (hw : HW a0 Z) : Jvm.Cond.before (Jvm.Cond.selects "[B" ({ cls := "[B", name := "clone", desc := "()Ljava/lang/Object;" } : Jvm.MethodName) ({ cls := "java/lang/Object", name := "clone", desc := "()Ljava/lang/Object;" } : Jvm.MethodName)) a0 Z = true := hw _ (List.mem_of_getElem? (i := 347) rfl)
theorem w348 (hw : HW a0 Z) : Jvm.Cond.before (Jvm.Cond.native ({ cls := "java/lang/Object", name := "clone", desc := "()Ljava/lang/Object;" } : Jvm.MethodName)) a0 Z = true := hw _ (List.mem_of_getElem? (i := 348) rfl)
theorem w349 (hw : HW a0 Z) : Jvm.Cond.before (Jvm.Cond.castable "[B" "java/lang/Cloneable") a0 Z = true := hw _ (List.mem_of_getElem? (i := 349) rfl)
theorem w350 (hw : HW a0 Z) : Jvm.Cond.before (Jvm.Cond.classLink "java/util/Arrays" (311 : Nat) "[B") a0 Z = true := hw _ (List.mem_of_getElem? (i := 350) rfl)
theorem w352 (hw : HW a0 Z) : Jvm.Cond.before (Jvm.Cond.constantLong "java/lang/Long" (131 : Nat) (100 : Int64)) a0 Z = true := hw _ (List.mem_of_getElem? (i := 352) rfl)
theorem w353 (hw : HW a0 Z) : Jvm.Cond.before (Jvm.Cond.stringLink "com/example/half_message_commit/halfmessagecommit/protocol/JsonWriterBeginObjectPinLaw" (62 : Nat) "{\"a\":false,{") a0 Z = true := hw _ (List.mem_of_getElem? (i := 353) rfl)
end Wds
theorem strAtoms {a0 : Array Value} {Z : State} (hw : HW a0 Z) : ∀ a ∈ Bundle.stringAtoms, a.before a0 Z = true := by
  intro d hd
  simp only [Bundle.stringAtoms, List.mem_cons, List.not_mem_nil, or_false] at hd
  rcases hd with rfl | rfl | rfl | rfl | rfl | rfl | rfl
  · exact hw _ (List.mem_of_getElem? (i := 29) rfl)
  · exact hw _ (List.mem_of_getElem? (i := 83) rfl)
  · exact hw _ (List.mem_of_getElem? (i := 30) rfl)
  · exact hw _ (List.mem_of_getElem? (i := 84) rfl)
  · exact hw _ (List.mem_of_getElem? (i := 85) rfl)
  · exact hw _ (List.mem_of_getElem? (i := 86) rfl)
  · exact hw _ (List.mem_of_getElem? (i := 87) rfl)
theorem hEW {a0 : Array Value} {Z : State} (hw : HW a0 Z) : ∃ a0, EW Z a0 consts_1 := ⟨a0, EW.cons (hw _ (List.mem_of_getElem? (i := 256) rfl)) (by decide) (EW.cons (hw _ (List.mem_of_getElem? (i := 82) rfl)) (by decide) (EW.cons (hw _ (List.mem_of_getElem? (i := 292) rfl)) (by decide) (EW.cons (hw _ (List.mem_of_getElem? (i := 285) rfl)) (by decide) (EW.cons (hw _ (List.mem_of_getElem? (i := 241) rfl)) (by decide) (EW.cons (hw _ (List.mem_of_getElem? (i := 291) rfl)) (by decide) (EW.cons (hw _ (List.mem_of_getElem? (i := 313) rfl)) (by decide) (EW.cons (hw _ (List.mem_of_getElem? (i := 307) rfl)) (by decide) (EW.cons (hw _ (List.mem_of_getElem? (i := 353) rfl)) (by decide) (EW.cons (hw _ (List.mem_of_getElem? (i := 284) rfl)) (by decide) (EW.nil))))))))))⟩
theorem d1_0 : decode prog_24_method_2_code 0 = .ok (.aload_n 0, 1) := by decide +kernel
theorem d1_1 : decode prog_24_method_2_code 1 = .ok (.invokespecial 11, 3) := by decide +kernel
theorem d1_4 : decode prog_24_method_2_code 4 = .ok (.aload_n 0, 1) := by decide +kernel
theorem d1_5 : decode prog_24_method_2_code 5 = .ok (.new 16, 3) := by decide +kernel
theorem d1_8 : decode prog_24_method_2_code 8 = .ok (.dup, 1) := by decide +kernel
theorem d1_9 : decode prog_24_method_2_code 9 = .ok (.lload_n 1, 1) := by decide +kernel
theorem d1_10 : decode prog_24_method_2_code 10 = .ok (.ldc2_w 18, 3) := by decide +kernel
theorem d1_13 : decode prog_24_method_2_code 13 = .ok (.invokestatic 20, 3) := by decide +kernel
theorem d1_16 : decode prog_24_method_2_code 16 = .ok (.l2i, 1) := by decide +kernel
theorem d1_17 : decode prog_24_method_2_code 17 = .ok (.invokespecial 26, 3) := by decide +kernel
theorem d1_20 : decode prog_24_method_2_code 20 = .ok (.putfield 29, 3) := by decide +kernel
theorem d1_23 : decode prog_24_method_2_code 23 = .ok (.return_, 1) := by decide +kernel
theorem d3_0 : decode jdk_29_method_70_code 0 = .ok (.lload_n 0, 1) := by decide +kernel
theorem d3_1 : decode jdk_29_method_70_code 1 = .ok (.lload_n 2, 1) := by decide +kernel
theorem d3_2 : decode jdk_29_method_70_code 2 = .ok (.lcmp, 1) := by decide +kernel
theorem d3_3 : decode jdk_29_method_70_code 3 = .ok (.ifCond .gt 7, 3) := by decide +kernel
theorem d3_6 : decode jdk_29_method_70_code 6 = .ok (.lload_n 0, 1) := by decide +kernel
theorem d3_7 : decode jdk_29_method_70_code 7 = .ok (.goto 4, 3) := by decide +kernel
theorem d3_11 : decode jdk_29_method_70_code 11 = .ok (.lreturn, 1) := by decide +kernel
theorem d4_0 : decode jdk_67_method_2_code 0 = .ok (.aload_n 0, 1) := by decide +kernel
theorem d4_1 : decode jdk_67_method_2_code 1 = .ok (.iload_n 1, 1) := by decide +kernel
theorem d4_2 : decode jdk_67_method_2_code 2 = .ok (.invokespecial 1, 3) := by decide +kernel
theorem d4_5 : decode jdk_67_method_2_code 5 = .ok (.return_, 1) := by decide +kernel
theorem d5_0 : decode jdk_68_method_2_code 0 = .ok (.aload_n 0, 1) := by decide +kernel
theorem d5_1 : decode jdk_68_method_2_code 1 = .ok (.invokespecial 3, 3) := by decide +kernel
theorem d5_4 : decode jdk_68_method_2_code 4 = .ok (.getstatic 18, 3) := by decide +kernel
theorem d5_7 : decode jdk_68_method_2_code 7 = .ok (.ifCond .eq 18, 3) := by decide +kernel
theorem d5_10 : decode jdk_68_method_2_code 10 = .ok (.aload_n 0, 1) := by decide +kernel
theorem d5_11 : decode jdk_68_method_2_code 11 = .ok (.iload_n 1, 1) := by decide +kernel
theorem d5_12 : decode jdk_68_method_2_code 12 = .ok (.newarray .byte, 2) := by decide +kernel
theorem d5_14 : decode jdk_68_method_2_code 14 = .ok (.putfield 15, 3) := by decide +kernel
theorem d5_17 : decode jdk_68_method_2_code 17 = .ok (.aload_n 0, 1) := by decide +kernel
theorem d5_18 : decode jdk_68_method_2_code 18 = .ok (.iconst 0, 1) := by decide +kernel
theorem d5_19 : decode jdk_68_method_2_code 19 = .ok (.putfield 22, 3) := by decide +kernel
theorem d5_22 : decode jdk_68_method_2_code 22 = .ok (.goto 16, 3) := by decide +kernel
theorem d5_38 : decode jdk_68_method_2_code 38 = .ok (.return_, 1) := by decide +kernel
theorem d6_0 : decode prog_24_method_3_code 0 = .ok (.aload_n 0, 1) := by decide +kernel
theorem d6_1 : decode prog_24_method_3_code 1 = .ok (.invokevirtual 33, 3) := by decide +kernel
theorem d6_4 : decode prog_24_method_3_code 4 = .ok (.aload_n 0, 1) := by decide +kernel
theorem d6_5 : decode prog_24_method_3_code 5 = .ok (.getfield 29, 3) := by decide +kernel
theorem d6_8 : decode prog_24_method_3_code 8 = .ok (.bipush 123, 2) := by decide +kernel
theorem d6_10 : decode prog_24_method_3_code 10 = .ok (.invokevirtual 36, 3) := by decide +kernel
theorem d6_13 : decode prog_24_method_3_code 13 = .ok (.pop, 1) := by decide +kernel
theorem d6_14 : decode prog_24_method_3_code 14 = .ok (.return_, 1) := by decide +kernel
theorem d7_0 : decode prog_24_method_12_code 0 = .ok (.aload_n 0, 1) := by decide +kernel
theorem d7_1 : decode prog_24_method_12_code 1 = .ok (.getfield 29, 3) := by decide +kernel
theorem d7_4 : decode prog_24_method_12_code 4 = .ok (.invokevirtual 62, 3) := by decide +kernel
theorem d7_7 : decode prog_24_method_12_code 7 = .ok (.iconst 1, 1) := by decide +kernel
theorem d7_8 : decode prog_24_method_12_code 8 = .ok (.isub, 1) := by decide +kernel
theorem d7_9 : decode prog_24_method_12_code 9 = .ok (.istore_n 1, 1) := by decide +kernel
theorem d7_10 : decode prog_24_method_12_code 10 = .ok (.iload_n 1, 1) := by decide +kernel
theorem d7_11 : decode prog_24_method_12_code 11 = .ok (.ifCond .lt 39, 3) := by decide +kernel
theorem d7_14 : decode prog_24_method_12_code 14 = .ok (.aload_n 0, 1) := by decide +kernel
theorem d7_15 : decode prog_24_method_12_code 15 = .ok (.getfield 29, 3) := by decide +kernel
theorem d7_18 : decode prog_24_method_12_code 18 = .ok (.iload_n 1, 1) := by decide +kernel
theorem d7_19 : decode prog_24_method_12_code 19 = .ok (.invokevirtual 66, 3) := by decide +kernel
theorem d7_22 : decode prog_24_method_12_code 22 = .ok (.bipush 123, 2) := by decide +kernel
theorem d7_24 : decode prog_24_method_12_code 24 = .ok (.if_icmp .eq 26, 3) := by decide +kernel
theorem d7_27 : decode prog_24_method_12_code 27 = .ok (.aload_n 0, 1) := by decide +kernel
theorem d7_28 : decode prog_24_method_12_code 28 = .ok (.getfield 29, 3) := by decide +kernel
theorem d7_31 : decode prog_24_method_12_code 31 = .ok (.iload_n 1, 1) := by decide +kernel
theorem d7_32 : decode prog_24_method_12_code 32 = .ok (.invokevirtual 66, 3) := by decide +kernel
theorem d7_35 : decode prog_24_method_12_code 35 = .ok (.bipush 91, 2) := by decide +kernel
theorem d7_37 : decode prog_24_method_12_code 37 = .ok (.if_icmp .eq 13, 3) := by decide +kernel
theorem d7_40 : decode prog_24_method_12_code 40 = .ok (.aload_n 0, 1) := by decide +kernel
theorem d7_41 : decode prog_24_method_12_code 41 = .ok (.getfield 29, 3) := by decide +kernel
theorem d7_44 : decode prog_24_method_12_code 44 = .ok (.bipush 44, 2) := by decide +kernel
theorem d7_46 : decode prog_24_method_12_code 46 = .ok (.invokevirtual 36, 3) := by decide +kernel
theorem d7_49 : decode prog_24_method_12_code 49 = .ok (.pop, 1) := by decide +kernel
theorem d7_50 : decode prog_24_method_12_code 50 = .ok (.return_, 1) := by decide +kernel
theorem d8_0 : decode jdk_67_method_93_code 0 = .ok (.aload_n 0, 1) := by decide +kernel
theorem d8_1 : decode jdk_67_method_93_code 1 = .ok (.invokespecial 343, 3) := by decide +kernel
theorem d8_4 : decode jdk_67_method_93_code 4 = .ok (.ireturn, 1) := by decide +kernel
theorem d9_0 : decode jdk_68_method_6_code 0 = .ok (.aload_n 0, 1) := by decide +kernel
theorem d9_1 : decode jdk_68_method_6_code 1 = .ok (.getfield 79, 3) := by decide +kernel
theorem d9_4 : decode jdk_68_method_6_code 4 = .ok (.ireturn, 1) := by decide +kernel
theorem d10_0 : decode jdk_67_method_14_code 0 = .ok (.aload_n 0, 1) := by decide +kernel
theorem d10_1 : decode jdk_67_method_14_code 1 = .ok (.iload_n 1, 1) := by decide +kernel
theorem d10_2 : decode jdk_67_method_14_code 2 = .ok (.invokespecial 50, 3) := by decide +kernel
theorem d10_5 : decode jdk_67_method_14_code 5 = .ok (.pop, 1) := by decide +kernel
theorem d10_6 : decode jdk_67_method_14_code 6 = .ok (.aload_n 0, 1) := by decide +kernel
theorem d10_7 : decode jdk_67_method_14_code 7 = .ok (.areturn, 1) := by decide +kernel
theorem d11_0 : decode jdk_68_method_31_code 0 = .ok (.aload_n 0, 1) := by decide +kernel
theorem d11_1 : decode jdk_68_method_31_code 1 = .ok (.aload_n 0, 1) := by decide +kernel
theorem d11_2 : decode jdk_68_method_31_code 2 = .ok (.getfield 79, 3) := by decide +kernel
theorem d11_5 : decode jdk_68_method_31_code 5 = .ok (.iconst 1, 1) := by decide +kernel
theorem d11_6 : decode jdk_68_method_31_code 6 = .ok (.iadd, 1) := by decide +kernel
theorem d11_7 : decode jdk_68_method_31_code 7 = .ok (.invokevirtual 100, 3) := by decide +kernel
theorem d11_10 : decode jdk_68_method_31_code 10 = .ok (.aload_n 0, 1) := by decide +kernel
theorem d11_11 : decode jdk_68_method_31_code 11 = .ok (.invokevirtual 83, 3) := by decide +kernel
theorem d11_14 : decode jdk_68_method_31_code 14 = .ok (.ifCond .eq 31, 3) := by decide +kernel
theorem d11_17 : decode jdk_68_method_31_code 17 = .ok (.iload_n 1, 1) := by decide +kernel
theorem d11_18 : decode jdk_68_method_31_code 18 = .ok (.invokestatic 191, 3) := by decide +kernel
theorem d11_21 : decode jdk_68_method_31_code 21 = .ok (.ifCond .eq 24, 3) := by decide +kernel
theorem d11_24 : decode jdk_68_method_31_code 24 = .ok (.aload_n 0, 1) := by decide +kernel
theorem d11_25 : decode jdk_68_method_31_code 25 = .ok (.getfield 15, 3) := by decide +kernel
theorem d11_28 : decode jdk_68_method_31_code 28 = .ok (.aload_n 0, 1) := by decide +kernel
theorem d11_29 : decode jdk_68_method_31_code 29 = .ok (.dup, 1) := by decide +kernel
theorem d11_30 : decode jdk_68_method_31_code 30 = .ok (.getfield 79, 3) := by decide +kernel
theorem d11_33 : decode jdk_68_method_31_code 33 = .ok (.dup_x1, 1) := by decide +kernel
theorem d11_34 : decode jdk_68_method_31_code 34 = .ok (.iconst 1, 1) := by decide +kernel
theorem d11_35 : decode jdk_68_method_31_code 35 = .ok (.iadd, 1) := by decide +kernel
theorem d11_36 : decode jdk_68_method_31_code 36 = .ok (.putfield 79, 3) := by decide +kernel
theorem d11_39 : decode jdk_68_method_31_code 39 = .ok (.iload_n 1, 1) := by decide +kernel
theorem d11_40 : decode jdk_68_method_31_code 40 = .ok (.i2b, 1) := by decide +kernel
theorem d11_41 : decode jdk_68_method_31_code 41 = .ok (.bastore, 1) := by decide +kernel
theorem d11_42 : decode jdk_68_method_31_code 42 = .ok (.goto 33, 3) := by decide +kernel
theorem d11_75 : decode jdk_68_method_31_code 75 = .ok (.aload_n 0, 1) := by decide +kernel
theorem d11_76 : decode jdk_68_method_31_code 76 = .ok (.areturn, 1) := by decide +kernel
theorem d12_0 : decode jdk_68_method_9_code 0 = .ok (.aload_n 0, 1) := by decide +kernel
theorem d12_1 : decode jdk_68_method_9_code 1 = .ok (.getfield 15, 3) := by decide +kernel
theorem d12_4 : decode jdk_68_method_9_code 4 = .ok (.arraylength, 1) := by decide +kernel
theorem d12_5 : decode jdk_68_method_9_code 5 = .ok (.aload_n 0, 1) := by decide +kernel
theorem d12_6 : decode jdk_68_method_9_code 6 = .ok (.getfield 22, 3) := by decide +kernel
theorem d12_9 : decode jdk_68_method_9_code 9 = .ok (.ishr, 1) := by decide +kernel
theorem d12_10 : decode jdk_68_method_9_code 10 = .ok (.istore_n 2, 1) := by decide +kernel
theorem d12_11 : decode jdk_68_method_9_code 11 = .ok (.iload_n 1, 1) := by decide +kernel
theorem d12_12 : decode jdk_68_method_9_code 12 = .ok (.iload_n 2, 1) := by decide +kernel
theorem d12_13 : decode jdk_68_method_9_code 13 = .ok (.isub, 1) := by decide +kernel
theorem d12_14 : decode jdk_68_method_9_code 14 = .ok (.ifCond .le 24, 3) := by decide +kernel
theorem d12_17 : decode jdk_68_method_9_code 17 = .ok (.aload_n 0, 1) := by decide +kernel
theorem d12_18 : decode jdk_68_method_9_code 18 = .ok (.aload_n 0, 1) := by decide +kernel
theorem d12_19 : decode jdk_68_method_9_code 19 = .ok (.getfield 15, 3) := by decide +kernel
theorem d12_22 : decode jdk_68_method_9_code 22 = .ok (.aload_n 0, 1) := by decide +kernel
theorem d12_23 : decode jdk_68_method_9_code 23 = .ok (.iload_n 1, 1) := by decide +kernel
theorem d12_24 : decode jdk_68_method_9_code 24 = .ok (.invokevirtual 104, 3) := by decide +kernel
theorem d12_27 : decode jdk_68_method_9_code 27 = .ok (.aload_n 0, 1) := by decide +kernel
theorem d12_28 : decode jdk_68_method_9_code 28 = .ok (.getfield 22, 3) := by decide +kernel
theorem d12_31 : decode jdk_68_method_9_code 31 = .ok (.ishl, 1) := by decide +kernel
theorem d12_32 : decode jdk_68_method_9_code 32 = .ok (.invokestatic 108, 3) := by decide +kernel
theorem d12_35 : decode jdk_68_method_9_code 35 = .ok (.putfield 15, 3) := by decide +kernel
theorem d12_38 : decode jdk_68_method_9_code 38 = .ok (.return_, 1) := by decide +kernel
theorem d13_0 : decode jdk_68_method_68_code 0 = .ok (.getstatic 18, 3) := by decide +kernel
theorem d13_3 : decode jdk_68_method_68_code 3 = .ok (.ifCond .eq 14, 3) := by decide +kernel
theorem d13_6 : decode jdk_68_method_68_code 6 = .ok (.aload_n 0, 1) := by decide +kernel
theorem d13_7 : decode jdk_68_method_68_code 7 = .ok (.getfield 22, 3) := by decide +kernel
theorem d13_10 : decode jdk_68_method_68_code 10 = .ok (.ifCond .ne 7, 3) := by decide +kernel
theorem d13_13 : decode jdk_68_method_68_code 13 = .ok (.iconst 1, 1) := by decide +kernel
theorem d13_14 : decode jdk_68_method_68_code 14 = .ok (.goto 4, 3) := by decide +kernel
theorem d13_18 : decode jdk_68_method_68_code 18 = .ok (.ireturn, 1) := by decide +kernel
theorem d14_0 : decode jdk_43_method_3_code 0 = .ok (.iload_n 0, 1) := by decide +kernel
theorem d14_1 : decode jdk_43_method_3_code 1 = .ok (.sipush 255, 3) := by decide +kernel
theorem d14_4 : decode jdk_43_method_3_code 4 = .ok (.if_icmp .gt 7, 3) := by decide +kernel
theorem d14_7 : decode jdk_43_method_3_code 7 = .ok (.iconst 1, 1) := by decide +kernel
theorem d14_8 : decode jdk_43_method_3_code 8 = .ok (.goto 4, 3) := by decide +kernel
theorem d14_12 : decode jdk_43_method_3_code 12 = .ok (.ireturn, 1) := by decide +kernel
theorem d15_0 : decode prog_24_method_5_code 0 = .ok (.aload_n 0, 1) := by decide +kernel
theorem d15_1 : decode prog_24_method_5_code 1 = .ok (.aload_n 1, 1) := by decide +kernel
theorem d15_2 : decode prog_24_method_5_code 2 = .ok (.invokevirtual 40, 3) := by decide +kernel
theorem d15_5 : decode prog_24_method_5_code 5 = .ok (.aload_n 0, 1) := by decide +kernel
theorem d15_6 : decode prog_24_method_5_code 6 = .ok (.getfield 29, 3) := by decide +kernel
theorem d15_9 : decode prog_24_method_5_code 9 = .ok (.bipush 91, 2) := by decide +kernel
theorem d15_11 : decode prog_24_method_5_code 11 = .ok (.invokevirtual 36, 3) := by decide +kernel
theorem d15_14 : decode prog_24_method_5_code 14 = .ok (.pop, 1) := by decide +kernel
theorem d15_15 : decode prog_24_method_5_code 15 = .ok (.return_, 1) := by decide +kernel
theorem d16_0 : decode prog_24_method_11_code 0 = .ok (.aload_n 0, 1) := by decide +kernel
theorem d16_1 : decode prog_24_method_11_code 1 = .ok (.invokevirtual 33, 3) := by decide +kernel
theorem d16_4 : decode prog_24_method_11_code 4 = .ok (.aload_n 0, 1) := by decide +kernel
theorem d16_5 : decode prog_24_method_11_code 5 = .ok (.aload_n 1, 1) := by decide +kernel
theorem d16_6 : decode prog_24_method_11_code 6 = .ok (.invokevirtual 49, 3) := by decide +kernel
theorem d16_9 : decode prog_24_method_11_code 9 = .ok (.aload_n 0, 1) := by decide +kernel
theorem d16_10 : decode prog_24_method_11_code 10 = .ok (.getfield 29, 3) := by decide +kernel
theorem d16_13 : decode prog_24_method_11_code 13 = .ok (.bipush 58, 2) := by decide +kernel
theorem d16_15 : decode prog_24_method_11_code 15 = .ok (.invokevirtual 36, 3) := by decide +kernel
theorem d16_18 : decode prog_24_method_11_code 18 = .ok (.pop, 1) := by decide +kernel
theorem d16_19 : decode prog_24_method_11_code 19 = .ok (.return_, 1) := by decide +kernel
theorem d17_0 : decode jdk_67_method_88_code 0 = .ok (.aload_n 0, 1) := by decide +kernel
theorem d17_1 : decode jdk_67_method_88_code 1 = .ok (.iload_n 1, 1) := by decide +kernel
theorem d17_2 : decode jdk_67_method_88_code 2 = .ok (.invokespecial 329, 3) := by decide +kernel
theorem d17_5 : decode jdk_67_method_88_code 5 = .ok (.ireturn, 1) := by decide +kernel
theorem d18_0 : decode jdk_68_method_14_code 0 = .ok (.aload_n 0, 1) := by decide +kernel
theorem d18_1 : decode jdk_68_method_14_code 1 = .ok (.getfield 22, 3) := by decide +kernel
theorem d18_4 : decode jdk_68_method_14_code 4 = .ok (.istore_n 2, 1) := by decide +kernel
theorem d18_5 : decode jdk_68_method_14_code 5 = .ok (.aload_n 0, 1) := by decide +kernel
theorem d18_6 : decode jdk_68_method_14_code 6 = .ok (.getfield 15, 3) := by decide +kernel
theorem d18_9 : decode jdk_68_method_14_code 9 = .ok (.astore_n 3, 1) := by decide +kernel
theorem d18_10 : decode jdk_68_method_14_code 10 = .ok (.aload_n 0, 1) := by decide +kernel
theorem d18_11 : decode jdk_68_method_14_code 11 = .ok (.getfield 79, 3) := by decide +kernel
theorem d18_14 : decode jdk_68_method_14_code 14 = .ok (.aload_n 3, 1) := by decide +kernel
theorem d18_15 : decode jdk_68_method_14_code 15 = .ok (.arraylength, 1) := by decide +kernel
theorem d18_16 : decode jdk_68_method_14_code 16 = .ok (.iload_n 2, 1) := by decide +kernel
theorem d18_17 : decode jdk_68_method_14_code 17 = .ok (.ishr, 1) := by decide +kernel
theorem d18_18 : decode jdk_68_method_14_code 18 = .ok (.invokestatic 138, 3) := by decide +kernel
theorem d18_21 : decode jdk_68_method_14_code 21 = .ok (.istore 4, 2) := by decide +kernel
theorem d18_23 : decode jdk_68_method_14_code 23 = .ok (.iload_n 1, 1) := by decide +kernel
theorem d18_24 : decode jdk_68_method_14_code 24 = .ok (.iload 4, 2) := by decide +kernel
theorem d18_26 : decode jdk_68_method_14_code 26 = .ok (.invokestatic 144, 3) := by decide +kernel
theorem d18_29 : decode jdk_68_method_14_code 29 = .ok (.iload_n 2, 1) := by decide +kernel
theorem d18_30 : decode jdk_68_method_14_code 30 = .ok (.ifCond .ne 12, 3) := by decide +kernel
theorem d18_33 : decode jdk_68_method_14_code 33 = .ok (.aload_n 3, 1) := by decide +kernel
theorem d18_34 : decode jdk_68_method_14_code 34 = .ok (.iload_n 1, 1) := by decide +kernel
theorem d18_35 : decode jdk_68_method_14_code 35 = .ok (.baload, 1) := by decide +kernel
theorem d18_36 : decode jdk_68_method_14_code 36 = .ok (.sipush 255, 3) := by decide +kernel
theorem d18_39 : decode jdk_68_method_14_code 39 = .ok (.iand, 1) := by decide +kernel
theorem d18_40 : decode jdk_68_method_14_code 40 = .ok (.i2c, 1) := by decide +kernel
theorem d18_41 : decode jdk_68_method_14_code 41 = .ok (.ireturn, 1) := by decide +kernel
theorem d19_0 : decode jdk_29_method_69_code 0 = .ok (.iload_n 0, 1) := by decide +kernel
theorem d19_1 : decode jdk_29_method_69_code 1 = .ok (.iload_n 1, 1) := by decide +kernel
theorem d19_2 : decode jdk_29_method_69_code 2 = .ok (.if_icmp .gt 7, 3) := by decide +kernel
theorem d19_5 : decode jdk_29_method_69_code 5 = .ok (.iload_n 0, 1) := by decide +kernel
theorem d19_6 : decode jdk_29_method_69_code 6 = .ok (.goto 4, 3) := by decide +kernel
theorem d19_9 : decode jdk_29_method_69_code 9 = .ok (.iload_n 1, 1) := by decide +kernel
theorem d19_10 : decode jdk_29_method_69_code 10 = .ok (.ireturn, 1) := by decide +kernel
theorem d20_0 : decode jdk_42_method_155_code 0 = .ok (.iload_n 0, 1) := by decide +kernel
theorem d20_1 : decode jdk_42_method_155_code 1 = .ok (.iload_n 1, 1) := by decide +kernel
theorem d20_2 : decode jdk_42_method_155_code 2 = .ok (.getstatic 1053, 3) := by decide +kernel
theorem d20_5 : decode jdk_42_method_155_code 5 = .ok (.invokestatic 1059, 3) := by decide +kernel
theorem d20_8 : decode jdk_42_method_155_code 8 = .ok (.pop, 1) := by decide +kernel
theorem d20_9 : decode jdk_42_method_155_code 9 = .ok (.return_, 1) := by decide +kernel
theorem d21_0 : decode jdk_41_method_11_code 0 = .ok (.iload_n 0, 1) := by decide +kernel
theorem d21_1 : decode jdk_41_method_11_code 1 = .ok (.ifCond .lt 8, 3) := by decide +kernel
theorem d21_4 : decode jdk_41_method_11_code 4 = .ok (.iload_n 0, 1) := by decide +kernel
theorem d21_5 : decode jdk_41_method_11_code 5 = .ok (.iload_n 1, 1) := by decide +kernel
theorem d21_6 : decode jdk_41_method_11_code 6 = .ok (.if_icmp .lt 10, 3) := by decide +kernel
theorem d21_16 : decode jdk_41_method_11_code 16 = .ok (.iload_n 0, 1) := by decide +kernel
theorem d21_17 : decode jdk_41_method_11_code 17 = .ok (.ireturn, 1) := by decide +kernel
theorem d22_0 : decode prog_24_method_13_code 0 = .ok (.aload_n 0, 1) := by decide +kernel
theorem d22_1 : decode prog_24_method_13_code 1 = .ok (.getfield 29, 3) := by decide +kernel
theorem d22_4 : decode prog_24_method_13_code 4 = .ok (.bipush 34, 2) := by decide +kernel
theorem d22_6 : decode prog_24_method_13_code 6 = .ok (.invokevirtual 36, 3) := by decide +kernel
theorem d22_9 : decode prog_24_method_13_code 9 = .ok (.pop, 1) := by decide +kernel
theorem d22_10 : decode prog_24_method_13_code 10 = .ok (.iconst 0, 1) := by decide +kernel
theorem d22_11 : decode prog_24_method_13_code 11 = .ok (.istore_n 2, 1) := by decide +kernel
theorem d22_12 : decode prog_24_method_13_code 12 = .ok (.iconst 0, 1) := by decide +kernel
theorem d22_13 : decode prog_24_method_13_code 13 = .ok (.istore_n 3, 1) := by decide +kernel
theorem d22_14 : decode prog_24_method_13_code 14 = .ok (.iload_n 3, 1) := by decide +kernel
theorem d22_15 : decode prog_24_method_13_code 15 = .ok (.aload_n 1, 1) := by decide +kernel
theorem d22_16 : decode prog_24_method_13_code 16 = .ok (.invokevirtual 70, 3) := by decide +kernel
theorem d22_19 : decode prog_24_method_13_code 19 = .ok (.if_icmp .ge 58, 3) := by decide +kernel
theorem d22_22 : decode prog_24_method_13_code 22 = .ok (.aload_n 1, 1) := by decide +kernel
theorem d22_23 : decode prog_24_method_13_code 23 = .ok (.iload_n 3, 1) := by decide +kernel
theorem d22_24 : decode prog_24_method_13_code 24 = .ok (.invokevirtual 73, 3) := by decide +kernel
theorem d22_27 : decode prog_24_method_13_code 27 = .ok (.istore 4, 2) := by decide +kernel
theorem d22_29 : decode prog_24_method_13_code 29 = .ok (.iload 4, 2) := by decide +kernel
theorem d22_31 : decode prog_24_method_13_code 31 = .ok (.bipush 34, 2) := by decide +kernel
theorem d22_33 : decode prog_24_method_13_code 33 = .ok (.if_icmp .eq 17, 3) := by decide +kernel
theorem d22_36 : decode prog_24_method_13_code 36 = .ok (.iload 4, 2) := by decide +kernel
theorem d22_38 : decode prog_24_method_13_code 38 = .ok (.bipush 92, 2) := by decide +kernel
theorem d22_40 : decode prog_24_method_13_code 40 = .ok (.if_icmp .eq 10, 3) := by decide +kernel
theorem d22_43 : decode prog_24_method_13_code 43 = .ok (.iload 4, 2) := by decide +kernel
theorem d22_45 : decode prog_24_method_13_code 45 = .ok (.bipush 32, 2) := by decide +kernel
theorem d22_47 : decode prog_24_method_13_code 47 = .ok (.if_icmp .ge 24, 3) := by decide +kernel
theorem d22_71 : decode prog_24_method_13_code 71 = .ok (.iinc 3 1, 3) := by decide +kernel
theorem d22_74 : decode prog_24_method_13_code 74 = .ok (.goto (-60), 3) := by decide +kernel
theorem d22_77 : decode prog_24_method_13_code 77 = .ok (.aload_n 0, 1) := by decide +kernel
theorem d22_78 : decode prog_24_method_13_code 78 = .ok (.getfield 29, 3) := by decide +kernel
theorem d22_81 : decode prog_24_method_13_code 81 = .ok (.aload_n 1, 1) := by decide +kernel
theorem d22_82 : decode prog_24_method_13_code 82 = .ok (.iload_n 2, 1) := by decide +kernel
theorem d22_83 : decode prog_24_method_13_code 83 = .ok (.aload_n 1, 1) := by decide +kernel
theorem d22_84 : decode prog_24_method_13_code 84 = .ok (.invokevirtual 70, 3) := by decide +kernel
theorem d22_87 : decode prog_24_method_13_code 87 = .ok (.invokevirtual 74, 3) := by decide +kernel
theorem d22_90 : decode prog_24_method_13_code 90 = .ok (.pop, 1) := by decide +kernel
theorem d22_91 : decode prog_24_method_13_code 91 = .ok (.aload_n 0, 1) := by decide +kernel
theorem d22_92 : decode prog_24_method_13_code 92 = .ok (.getfield 29, 3) := by decide +kernel
theorem d22_95 : decode prog_24_method_13_code 95 = .ok (.bipush 34, 2) := by decide +kernel
theorem d22_97 : decode prog_24_method_13_code 97 = .ok (.invokevirtual 36, 3) := by decide +kernel
theorem d22_100 : decode prog_24_method_13_code 100 = .ok (.pop, 1) := by decide +kernel
theorem d22_101 : decode prog_24_method_13_code 101 = .ok (.return_, 1) := by decide +kernel
theorem d23_0 : decode jdk_42_method_54_code 0 = .ok (.aload_n 0, 1) := by decide +kernel
theorem d23_1 : decode jdk_42_method_54_code 1 = .ok (.getfield 9, 3) := by decide +kernel
theorem d23_4 : decode jdk_42_method_54_code 4 = .ok (.arraylength, 1) := by decide +kernel
theorem d23_5 : decode jdk_42_method_54_code 5 = .ok (.aload_n 0, 1) := by decide +kernel
theorem d23_6 : decode jdk_42_method_54_code 6 = .ok (.invokevirtual 335, 3) := by decide +kernel
theorem d23_9 : decode jdk_42_method_54_code 9 = .ok (.ishr, 1) := by decide +kernel
theorem d23_10 : decode jdk_42_method_54_code 10 = .ok (.ireturn, 1) := by decide +kernel
theorem d24_0 : decode jdk_42_method_152_code 0 = .ok (.getstatic 38, 3) := by decide +kernel
theorem d24_3 : decode jdk_42_method_152_code 3 = .ok (.ifCond .eq 10, 3) := by decide +kernel
theorem d24_6 : decode jdk_42_method_152_code 6 = .ok (.aload_n 0, 1) := by decide +kernel
theorem d24_7 : decode jdk_42_method_152_code 7 = .ok (.getfield 15, 3) := by decide +kernel
theorem d24_10 : decode jdk_42_method_152_code 10 = .ok (.goto 4, 3) := by decide +kernel
theorem d24_14 : decode jdk_42_method_152_code 14 = .ok (.ireturn, 1) := by decide +kernel
theorem d25_0 : decode jdk_42_method_56_code 0 = .ok (.aload_n 0, 1) := by decide +kernel
theorem d25_1 : decode jdk_42_method_56_code 1 = .ok (.invokevirtual 492, 3) := by decide +kernel
theorem d25_4 : decode jdk_42_method_56_code 4 = .ok (.ifCond .eq 12, 3) := by decide +kernel
theorem d25_7 : decode jdk_42_method_56_code 7 = .ok (.aload_n 0, 1) := by decide +kernel
theorem d25_8 : decode jdk_42_method_56_code 8 = .ok (.getfield 9, 3) := by decide +kernel
theorem d25_11 : decode jdk_42_method_56_code 11 = .ok (.iload_n 1, 1) := by decide +kernel
theorem d25_12 : decode jdk_42_method_56_code 12 = .ok (.invokestatic 495, 3) := by decide +kernel
theorem d25_15 : decode jdk_42_method_56_code 15 = .ok (.ireturn, 1) := by decide +kernel
theorem d26_0 : decode jdk_42_method_154_code 0 = .ok (.getstatic 38, 3) := by decide +kernel
theorem d26_3 : decode jdk_42_method_154_code 3 = .ok (.ifCond .eq 14, 3) := by decide +kernel
theorem d26_6 : decode jdk_42_method_154_code 6 = .ok (.aload_n 0, 1) := by decide +kernel
theorem d26_7 : decode jdk_42_method_154_code 7 = .ok (.getfield 15, 3) := by decide +kernel
theorem d26_10 : decode jdk_42_method_154_code 10 = .ok (.ifCond .ne 7, 3) := by decide +kernel
theorem d26_13 : decode jdk_42_method_154_code 13 = .ok (.iconst 1, 1) := by decide +kernel
theorem d26_14 : decode jdk_42_method_154_code 14 = .ok (.goto 4, 3) := by decide +kernel
theorem d26_18 : decode jdk_42_method_154_code 18 = .ok (.ireturn, 1) := by decide +kernel
theorem d27_0 : decode jdk_43_method_2_code 0 = .ok (.iload_n 1, 1) := by decide +kernel
theorem d27_1 : decode jdk_43_method_2_code 1 = .ok (.aload_n 0, 1) := by decide +kernel
theorem d27_2 : decode jdk_43_method_2_code 2 = .ok (.arraylength, 1) := by decide +kernel
theorem d27_3 : decode jdk_43_method_2_code 3 = .ok (.invokestatic 9, 3) := by decide +kernel
theorem d27_6 : decode jdk_43_method_2_code 6 = .ok (.aload_n 0, 1) := by decide +kernel
theorem d27_7 : decode jdk_43_method_2_code 7 = .ok (.iload_n 1, 1) := by decide +kernel
theorem d27_8 : decode jdk_43_method_2_code 8 = .ok (.baload, 1) := by decide +kernel
theorem d27_9 : decode jdk_43_method_2_code 9 = .ok (.sipush 255, 3) := by decide +kernel
theorem d27_12 : decode jdk_43_method_2_code 12 = .ok (.iand, 1) := by decide +kernel
theorem d27_13 : decode jdk_43_method_2_code 13 = .ok (.i2c, 1) := by decide +kernel
theorem d27_14 : decode jdk_43_method_2_code 14 = .ok (.ireturn, 1) := by decide +kernel
theorem d28_0 : decode jdk_67_method_10_code 0 = .ok (.aload_n 0, 1) := by decide +kernel
theorem d28_1 : decode jdk_67_method_10_code 1 = .ok (.aload_n 1, 1) := by decide +kernel
theorem d28_2 : decode jdk_67_method_10_code 2 = .ok (.iload_n 2, 1) := by decide +kernel
theorem d28_3 : decode jdk_67_method_10_code 3 = .ok (.iload_n 3, 1) := by decide +kernel
theorem d28_4 : decode jdk_67_method_10_code 4 = .ok (.invokespecial 38, 3) := by decide +kernel
theorem d28_7 : decode jdk_67_method_10_code 7 = .ok (.pop, 1) := by decide +kernel
theorem d28_8 : decode jdk_67_method_10_code 8 = .ok (.aload_n 0, 1) := by decide +kernel
theorem d28_9 : decode jdk_67_method_10_code 9 = .ok (.areturn, 1) := by decide +kernel
theorem d29_0 : decode jdk_68_method_27_code 0 = .ok (.aload_n 1, 1) := by decide +kernel
theorem d29_1 : decode jdk_68_method_27_code 1 = .ok (.ifnonnull 6, 3) := by decide +kernel
theorem d29_7 : decode jdk_68_method_27_code 7 = .ok (.iload_n 2, 1) := by decide +kernel
theorem d29_8 : decode jdk_68_method_27_code 8 = .ok (.iload_n 3, 1) := by decide +kernel
theorem d29_9 : decode jdk_68_method_27_code 9 = .ok (.aload_n 1, 1) := by decide +kernel
theorem d29_10 : decode jdk_68_method_27_code 10 = .ok (.invokeinterface 47 1, 5) := by decide +kernel
theorem d29_15 : decode jdk_68_method_27_code 15 = .ok (.getstatic 183, 3) := by decide +kernel
theorem d29_18 : decode jdk_68_method_27_code 18 = .ok (.invokestatic 161, 3) := by decide +kernel
theorem d29_21 : decode jdk_68_method_27_code 21 = .ok (.pop, 1) := by decide +kernel
theorem d29_22 : decode jdk_68_method_27_code 22 = .ok (.iload_n 3, 1) := by decide +kernel
theorem d29_23 : decode jdk_68_method_27_code 23 = .ok (.iload_n 2, 1) := by decide +kernel
theorem d29_24 : decode jdk_68_method_27_code 24 = .ok (.isub, 1) := by decide +kernel
theorem d29_25 : decode jdk_68_method_27_code 25 = .ok (.istore 4, 2) := by decide +kernel
theorem d29_27 : decode jdk_68_method_27_code 27 = .ok (.aload_n 0, 1) := by decide +kernel
theorem d29_28 : decode jdk_68_method_27_code 28 = .ok (.aload_n 0, 1) := by decide +kernel
theorem d29_29 : decode jdk_68_method_27_code 29 = .ok (.getfield 79, 3) := by decide +kernel
theorem d29_32 : decode jdk_68_method_27_code 32 = .ok (.iload 4, 2) := by decide +kernel
theorem d29_34 : decode jdk_68_method_27_code 34 = .ok (.iadd, 1) := by decide +kernel
theorem d29_35 : decode jdk_68_method_27_code 35 = .ok (.invokevirtual 100, 3) := by decide +kernel
theorem d29_38 : decode jdk_68_method_27_code 38 = .ok (.aload_n 1, 1) := by decide +kernel
theorem d29_39 : decode jdk_68_method_27_code 39 = .ok (.instanceof 1, 3) := by decide +kernel
theorem d29_42 : decode jdk_68_method_27_code 42 = .ok (.ifCond .eq 16, 3) := by decide +kernel
theorem d29_45 : decode jdk_68_method_27_code 45 = .ok (.aload_n 0, 1) := by decide +kernel
theorem d29_46 : decode jdk_68_method_27_code 46 = .ok (.aload_n 1, 1) := by decide +kernel
theorem d29_47 : decode jdk_68_method_27_code 47 = .ok (.checkcast 1, 3) := by decide +kernel
theorem d29_50 : decode jdk_68_method_27_code 50 = .ok (.iload_n 2, 1) := by decide +kernel
theorem d29_51 : decode jdk_68_method_27_code 51 = .ok (.iload_n 3, 1) := by decide +kernel
theorem d29_52 : decode jdk_68_method_27_code 52 = .ok (.invokevirtual 232, 3) := by decide +kernel
theorem d29_55 : decode jdk_68_method_27_code 55 = .ok (.goto 10, 3) := by decide +kernel
theorem d29_65 : decode jdk_68_method_27_code 65 = .ok (.aload_n 0, 1) := by decide +kernel
theorem d29_66 : decode jdk_68_method_27_code 66 = .ok (.areturn, 1) := by decide +kernel
theorem d30_0 : decode jdk_41_method_12_code 0 = .ok (.iload_n 0, 1) := by decide +kernel
theorem d30_1 : decode jdk_41_method_12_code 1 = .ok (.ifCond .lt 13, 3) := by decide +kernel
theorem d30_4 : decode jdk_41_method_12_code 4 = .ok (.iload_n 0, 1) := by decide +kernel
theorem d30_5 : decode jdk_41_method_12_code 5 = .ok (.iload_n 1, 1) := by decide +kernel
theorem d30_6 : decode jdk_41_method_12_code 6 = .ok (.if_icmp .gt 8, 3) := by decide +kernel
theorem d30_9 : decode jdk_41_method_12_code 9 = .ok (.iload_n 1, 1) := by decide +kernel
theorem d30_10 : decode jdk_41_method_12_code 10 = .ok (.iload_n 2, 1) := by decide +kernel
theorem d30_11 : decode jdk_41_method_12_code 11 = .ok (.if_icmp .le 11, 3) := by decide +kernel
theorem d30_22 : decode jdk_41_method_12_code 22 = .ok (.iload_n 0, 1) := by decide +kernel
theorem d30_23 : decode jdk_41_method_12_code 23 = .ok (.ireturn, 1) := by decide +kernel
theorem d31_0 : decode jdk_68_method_75_code 0 = .ok (.aload_n 0, 1) := by decide +kernel
theorem d31_1 : decode jdk_68_method_75_code 1 = .ok (.invokevirtual 83, 3) := by decide +kernel
theorem d31_4 : decode jdk_68_method_75_code 4 = .ok (.ifCond .eq 141, 3) := by decide +kernel
theorem d31_7 : decode jdk_68_method_75_code 7 = .ok (.aload_n 1, 1) := by decide +kernel
theorem d31_8 : decode jdk_68_method_75_code 8 = .ok (.invokevirtual 400, 3) := by decide +kernel
theorem d31_11 : decode jdk_68_method_75_code 11 = .ok (.ifCond .eq 25, 3) := by decide +kernel
theorem d31_14 : decode jdk_68_method_75_code 14 = .ok (.aload_n 1, 1) := by decide +kernel
theorem d31_15 : decode jdk_68_method_75_code 15 = .ok (.invokevirtual 401, 3) := by decide +kernel
theorem d31_18 : decode jdk_68_method_75_code 18 = .ok (.iload_n 2, 1) := by decide +kernel
theorem d31_19 : decode jdk_68_method_75_code 19 = .ok (.aload_n 0, 1) := by decide +kernel
theorem d31_20 : decode jdk_68_method_75_code 20 = .ok (.getfield 15, 3) := by decide +kernel
theorem d31_23 : decode jdk_68_method_75_code 23 = .ok (.aload_n 0, 1) := by decide +kernel
theorem d31_24 : decode jdk_68_method_75_code 24 = .ok (.getfield 79, 3) := by decide +kernel
theorem d31_27 : decode jdk_68_method_75_code 27 = .ok (.iload_n 3, 1) := by decide +kernel
theorem d31_28 : decode jdk_68_method_75_code 28 = .ok (.iload_n 2, 1) := by decide +kernel
theorem d31_29 : decode jdk_68_method_75_code 29 = .ok (.isub, 1) := by decide +kernel
theorem d31_30 : decode jdk_68_method_75_code 30 = .ok (.invokestatic 309, 3) := by decide +kernel
theorem d31_33 : decode jdk_68_method_75_code 33 = .ok (.goto 161, 3) := by decide +kernel
theorem d31_194 : decode jdk_68_method_75_code 194 = .ok (.aload_n 0, 1) := by decide +kernel
theorem d31_195 : decode jdk_68_method_75_code 195 = .ok (.dup, 1) := by decide +kernel
theorem d31_196 : decode jdk_68_method_75_code 196 = .ok (.getfield 79, 3) := by decide +kernel
theorem d31_199 : decode jdk_68_method_75_code 199 = .ok (.iload_n 3, 1) := by decide +kernel
theorem d31_200 : decode jdk_68_method_75_code 200 = .ok (.iload_n 2, 1) := by decide +kernel
theorem d31_201 : decode jdk_68_method_75_code 201 = .ok (.isub, 1) := by decide +kernel
theorem d31_202 : decode jdk_68_method_75_code 202 = .ok (.iadd, 1) := by decide +kernel
theorem d31_203 : decode jdk_68_method_75_code 203 = .ok (.putfield 79, 3) := by decide +kernel
theorem d31_206 : decode jdk_68_method_75_code 206 = .ok (.return_, 1) := by decide +kernel
theorem d32_0 : decode jdk_42_method_153_code 0 = .ok (.aload_n 0, 1) := by decide +kernel
theorem d32_1 : decode jdk_42_method_153_code 1 = .ok (.getfield 9, 3) := by decide +kernel
theorem d32_4 : decode jdk_42_method_153_code 4 = .ok (.areturn, 1) := by decide +kernel
theorem d33_0 : decode jdk_68_method_10_code 0 = .ok (.aload_n 0, 1) := by decide +kernel
theorem d33_1 : decode jdk_68_method_10_code 1 = .ok (.getfield 15, 3) := by decide +kernel
theorem d33_4 : decode jdk_68_method_10_code 4 = .ok (.arraylength, 1) := by decide +kernel
theorem d33_5 : decode jdk_68_method_10_code 5 = .ok (.istore_n 2, 1) := by decide +kernel
theorem d33_6 : decode jdk_68_method_10_code 6 = .ok (.iload_n 1, 1) := by decide +kernel
theorem d33_7 : decode jdk_68_method_10_code 7 = .ok (.aload_n 0, 1) := by decide +kernel
theorem d33_8 : decode jdk_68_method_10_code 8 = .ok (.getfield 22, 3) := by decide +kernel
theorem d33_11 : decode jdk_68_method_10_code 11 = .ok (.ishl, 1) := by decide +kernel
theorem d33_12 : decode jdk_68_method_10_code 12 = .ok (.istore_n 3, 1) := by decide +kernel
theorem d33_13 : decode jdk_68_method_10_code 13 = .ok (.iload_n 3, 1) := by decide +kernel
theorem d33_14 : decode jdk_68_method_10_code 14 = .ok (.iload_n 2, 1) := by decide +kernel
theorem d33_15 : decode jdk_68_method_10_code 15 = .ok (.isub, 1) := by decide +kernel
theorem d33_16 : decode jdk_68_method_10_code 16 = .ok (.istore 4, 2) := by decide +kernel
theorem d33_18 : decode jdk_68_method_10_code 18 = .ok (.iload_n 2, 1) := by decide +kernel
theorem d33_19 : decode jdk_68_method_10_code 19 = .ok (.iload 4, 2) := by decide +kernel
theorem d33_21 : decode jdk_68_method_10_code 21 = .ok (.iload_n 2, 1) := by decide +kernel
theorem d33_22 : decode jdk_68_method_10_code 22 = .ok (.iconst 2, 1) := by decide +kernel
theorem d33_23 : decode jdk_68_method_10_code 23 = .ok (.aload_n 0, 1) := by decide +kernel
theorem d33_24 : decode jdk_68_method_10_code 24 = .ok (.getfield 22, 3) := by decide +kernel
theorem d33_27 : decode jdk_68_method_10_code 27 = .ok (.ishl, 1) := by decide +kernel
theorem d33_28 : decode jdk_68_method_10_code 28 = .ok (.iadd, 1) := by decide +kernel
theorem d33_29 : decode jdk_68_method_10_code 29 = .ok (.invokestatic 114, 3) := by decide +kernel
theorem d33_32 : decode jdk_68_method_10_code 32 = .ok (.istore 5, 2) := by decide +kernel
theorem d33_34 : decode jdk_68_method_10_code 34 = .ok (.iload 5, 2) := by decide +kernel
theorem d33_36 : decode jdk_68_method_10_code 36 = .ok (.ldc 39, 2) := by decide +kernel
theorem d33_38 : decode jdk_68_method_10_code 38 = .ok (.if_icmp .ne 13, 3) := by decide +kernel
theorem d33_51 : decode jdk_68_method_10_code 51 = .ok (.iload 5, 2) := by decide +kernel
theorem d33_53 : decode jdk_68_method_10_code 53 = .ok (.aload_n 0, 1) := by decide +kernel
theorem d33_54 : decode jdk_68_method_10_code 54 = .ok (.getfield 22, 3) := by decide +kernel
theorem d33_57 : decode jdk_68_method_10_code 57 = .ok (.ishr, 1) := by decide +kernel
theorem d33_58 : decode jdk_68_method_10_code 58 = .ok (.ireturn, 1) := by decide +kernel
theorem d34_0 : decode jdk_48_method_27_code 0 = .ok (.iload_n 0, 1) := by decide +kernel
theorem d34_1 : decode jdk_48_method_27_code 1 = .ok (.iload_n 1, 1) := by decide +kernel
theorem d34_2 : decode jdk_48_method_27_code 2 = .ok (.iload_n 2, 1) := by decide +kernel
theorem d34_3 : decode jdk_48_method_27_code 3 = .ok (.invokestatic 194, 3) := by decide +kernel
theorem d34_6 : decode jdk_48_method_27_code 6 = .ok (.iadd, 1) := by decide +kernel
theorem d34_7 : decode jdk_48_method_27_code 7 = .ok (.istore_n 3, 1) := by decide +kernel
theorem d34_8 : decode jdk_48_method_27_code 8 = .ok (.iconst 0, 1) := by decide +kernel
theorem d34_9 : decode jdk_48_method_27_code 9 = .ok (.iload_n 3, 1) := by decide +kernel
theorem d34_10 : decode jdk_48_method_27_code 10 = .ok (.if_icmp .ge 11, 3) := by decide +kernel
theorem d34_13 : decode jdk_48_method_27_code 13 = .ok (.iload_n 3, 1) := by decide +kernel
theorem d34_14 : decode jdk_48_method_27_code 14 = .ok (.ldc 200, 2) := by decide +kernel
theorem d34_16 : decode jdk_48_method_27_code 16 = .ok (.if_icmp .gt 5, 3) := by decide +kernel
theorem d34_19 : decode jdk_48_method_27_code 19 = .ok (.iload_n 3, 1) := by decide +kernel
theorem d34_20 : decode jdk_48_method_27_code 20 = .ok (.ireturn, 1) := by decide +kernel
theorem d35_0 : decode jdk_29_method_65_code 0 = .ok (.iload_n 0, 1) := by decide +kernel
theorem d35_1 : decode jdk_29_method_65_code 1 = .ok (.iload_n 1, 1) := by decide +kernel
theorem d35_2 : decode jdk_29_method_65_code 2 = .ok (.if_icmp .lt 7, 3) := by decide +kernel
theorem d35_5 : decode jdk_29_method_65_code 5 = .ok (.iload_n 0, 1) := by decide +kernel
theorem d35_6 : decode jdk_29_method_65_code 6 = .ok (.goto 4, 3) := by decide +kernel
theorem d35_9 : decode jdk_29_method_65_code 9 = .ok (.iload_n 1, 1) := by decide +kernel
theorem d35_10 : decode jdk_29_method_65_code 10 = .ok (.ireturn, 1) := by decide +kernel
theorem d36_0 : decode jdk_65_method_121_code 0 = .ok (.iload_n 1, 1) := by decide +kernel
theorem d36_1 : decode jdk_65_method_121_code 1 = .ok (.aload_n 0, 1) := by decide +kernel
theorem d36_2 : decode jdk_65_method_121_code 2 = .ok (.arraylength, 1) := by decide +kernel
theorem d36_3 : decode jdk_65_method_121_code 3 = .ok (.if_icmp .ne 11, 3) := by decide +kernel
theorem d36_14 : decode jdk_65_method_121_code 14 = .ok (.iload_n 1, 1) := by decide +kernel
theorem d36_15 : decode jdk_65_method_121_code 15 = .ok (.newarray .byte, 2) := by decide +kernel
theorem d36_17 : decode jdk_65_method_121_code 17 = .ok (.astore_n 2, 1) := by decide +kernel
theorem d36_18 : decode jdk_65_method_121_code 18 = .ok (.aload_n 0, 1) := by decide +kernel
theorem d36_19 : decode jdk_65_method_121_code 19 = .ok (.iconst 0, 1) := by decide +kernel
theorem d36_20 : decode jdk_65_method_121_code 20 = .ok (.aload_n 2, 1) := by decide +kernel
theorem d36_21 : decode jdk_65_method_121_code 21 = .ok (.iconst 0, 1) := by decide +kernel
theorem d36_22 : decode jdk_65_method_121_code 22 = .ok (.aload_n 0, 1) := by decide +kernel
theorem d36_23 : decode jdk_65_method_121_code 23 = .ok (.arraylength, 1) := by decide +kernel
theorem d36_24 : decode jdk_65_method_121_code 24 = .ok (.iload_n 1, 1) := by decide +kernel
theorem d36_25 : decode jdk_65_method_121_code 25 = .ok (.invokestatic 304, 3) := by decide +kernel
theorem d36_28 : decode jdk_65_method_121_code 28 = .ok (.invokestatic 150, 3) := by decide +kernel
theorem d36_31 : decode jdk_65_method_121_code 31 = .ok (.aload_n 2, 1) := by decide +kernel
theorem d36_32 : decode jdk_65_method_121_code 32 = .ok (.areturn, 1) := by decide +kernel
theorem d37_0 : decode prog_24_method_10_code 0 = .ok (.aload_n 0, 1) := by decide +kernel
theorem d37_1 : decode prog_24_method_10_code 1 = .ok (.getfield 29, 3) := by decide +kernel
theorem d37_4 : decode prog_24_method_10_code 4 = .ok (.invokevirtual 58, 3) := by decide +kernel
theorem d37_7 : decode prog_24_method_10_code 7 = .ok (.areturn, 1) := by decide +kernel
theorem d38_0 : decode jdk_67_method_42_code 0 = .ok (.new 18, 3) := by decide +kernel
theorem d38_3 : decode jdk_67_method_42_code 3 = .ok (.dup, 1) := by decide +kernel
theorem d38_4 : decode jdk_67_method_42_code 4 = .ok (.aload_n 0, 1) := by decide +kernel
theorem d38_5 : decode jdk_67_method_42_code 5 = .ok (.invokespecial 137, 3) := by decide +kernel
theorem d38_8 : decode jdk_67_method_42_code 8 = .ok (.areturn, 1) := by decide +kernel
theorem d39_0 : decode jdk_42_method_53_code 0 = .ok (.aload_n 0, 1) := by decide +kernel
theorem d39_1 : decode jdk_42_method_53_code 1 = .ok (.aload_n 1, 1) := by decide +kernel
theorem d39_2 : decode jdk_42_method_53_code 2 = .ok (.aconst_null, 1) := by decide +kernel
theorem d39_3 : decode jdk_42_method_53_code 3 = .ok (.invokespecial 489, 3) := by decide +kernel
theorem d39_6 : decode jdk_42_method_53_code 6 = .ok (.return_, 1) := by decide +kernel
theorem d40_0 : decode jdk_42_method_150_code 0 = .ok (.aload_n 0, 1) := by decide +kernel
theorem d40_1 : decode jdk_42_method_150_code 1 = .ok (.invokespecial 1, 3) := by decide +kernel
theorem d40_4 : decode jdk_42_method_150_code 4 = .ok (.aload_n 1, 1) := by decide +kernel
theorem d40_5 : decode jdk_42_method_150_code 5 = .ok (.invokevirtual 552, 3) := by decide +kernel
theorem d40_8 : decode jdk_42_method_150_code 8 = .ok (.astore_n 3, 1) := by decide +kernel
theorem d40_9 : decode jdk_42_method_150_code 9 = .ok (.aload_n 1, 1) := by decide +kernel
theorem d40_10 : decode jdk_42_method_150_code 10 = .ok (.invokevirtual 549, 3) := by decide +kernel
theorem d40_13 : decode jdk_42_method_150_code 13 = .ok (.istore 4, 2) := by decide +kernel
theorem d40_15 : decode jdk_42_method_150_code 15 = .ok (.aload_n 1, 1) := by decide +kernel
theorem d40_16 : decode jdk_42_method_150_code 16 = .ok (.invokevirtual 1047, 3) := by decide +kernel
theorem d40_19 : decode jdk_42_method_150_code 19 = .ok (.ifCond .eq 22, 3) := by decide +kernel
theorem d40_22 : decode jdk_42_method_150_code 22 = .ok (.aload_n 0, 1) := by decide +kernel
theorem d40_23 : decode jdk_42_method_150_code 23 = .ok (.iconst 0, 1) := by decide +kernel
theorem d40_24 : decode jdk_42_method_150_code 24 = .ok (.putfield 15, 3) := by decide +kernel
theorem d40_27 : decode jdk_42_method_150_code 27 = .ok (.aload_n 0, 1) := by decide +kernel
theorem d40_28 : decode jdk_42_method_150_code 28 = .ok (.aload_n 3, 1) := by decide +kernel
theorem d40_29 : decode jdk_42_method_150_code 29 = .ok (.iconst 0, 1) := by decide +kernel
theorem d40_30 : decode jdk_42_method_150_code 30 = .ok (.iload 4, 2) := by decide +kernel
theorem d40_32 : decode jdk_42_method_150_code 32 = .ok (.invokestatic 54, 3) := by decide +kernel
theorem d40_35 : decode jdk_42_method_150_code 35 = .ok (.putfield 9, 3) := by decide +kernel
theorem d40_38 : decode jdk_42_method_150_code 38 = .ok (.goto 59, 3) := by decide +kernel
theorem d40_97 : decode jdk_42_method_150_code 97 = .ok (.return_, 1) := by decide +kernel
theorem d41_0 : decode jdk_68_method_64_code 0 = .ok (.aload_n 0, 1) := by decide +kernel
theorem d41_1 : decode jdk_68_method_64_code 1 = .ok (.getfield 15, 3) := by decide +kernel
theorem d41_4 : decode jdk_68_method_64_code 4 = .ok (.areturn, 1) := by decide +kernel
theorem d42_0 : decode jdk_65_method_132_code 0 = .ok (.iload_n 1, 1) := by decide +kernel
theorem d42_1 : decode jdk_65_method_132_code 1 = .ok (.ifCond .ne 9, 3) := by decide +kernel
theorem d42_4 : decode jdk_65_method_132_code 4 = .ok (.iload_n 2, 1) := by decide +kernel
theorem d42_5 : decode jdk_65_method_132_code 5 = .ok (.aload_n 0, 1) := by decide +kernel
theorem d42_6 : decode jdk_65_method_132_code 6 = .ok (.arraylength, 1) := by decide +kernel
theorem d42_7 : decode jdk_65_method_132_code 7 = .ok (.if_icmp .eq 10, 3) := by decide +kernel
theorem d42_10 : decode jdk_65_method_132_code 10 = .ok (.aload_n 0, 1) := by decide +kernel
theorem d42_11 : decode jdk_65_method_132_code 11 = .ok (.iload_n 1, 1) := by decide +kernel
theorem d42_12 : decode jdk_65_method_132_code 12 = .ok (.iload_n 2, 1) := by decide +kernel
theorem d42_13 : decode jdk_65_method_132_code 13 = .ok (.invokestatic 339, 3) := by decide +kernel
theorem d42_16 : decode jdk_65_method_132_code 16 = .ok (.areturn, 1) := by decide +kernel
theorem d42_17 : decode jdk_65_method_132_code 17 = .ok (.aload_n 0, 1) := by decide +kernel
theorem d42_18 : decode jdk_65_method_132_code 18 = .ok (.invokevirtual 310, 3) := by decide +kernel
theorem d42_21 : decode jdk_65_method_132_code 21 = .ok (.checkcast 311, 3) := by decide +kernel
theorem d42_24 : decode jdk_65_method_132_code 24 = .ok (.areturn, 1) := by decide +kernel
theorem d43_0 : decode jdk_65_method_133_code 0 = .ok (.iload_n 1, 1) := by decide +kernel
theorem d43_1 : decode jdk_65_method_133_code 1 = .ok (.iload_n 2, 1) := by decide +kernel
theorem d43_2 : decode jdk_65_method_133_code 2 = .ok (.invokestatic 343, 3) := by decide +kernel
theorem d43_5 : decode jdk_65_method_133_code 5 = .ok (.iload_n 2, 1) := by decide +kernel
theorem d43_6 : decode jdk_65_method_133_code 6 = .ok (.iload_n 1, 1) := by decide +kernel
theorem d43_7 : decode jdk_65_method_133_code 7 = .ok (.isub, 1) := by decide +kernel
theorem d43_8 : decode jdk_65_method_133_code 8 = .ok (.istore_n 3, 1) := by decide +kernel
theorem d43_9 : decode jdk_65_method_133_code 9 = .ok (.iload_n 3, 1) := by decide +kernel
theorem d43_10 : decode jdk_65_method_133_code 10 = .ok (.newarray .byte, 2) := by decide +kernel
theorem d43_12 : decode jdk_65_method_133_code 12 = .ok (.astore 4, 2) := by decide +kernel
theorem d43_14 : decode jdk_65_method_133_code 14 = .ok (.aload_n 0, 1) := by decide +kernel
theorem d43_15 : decode jdk_65_method_133_code 15 = .ok (.iload_n 1, 1) := by decide +kernel
theorem d43_16 : decode jdk_65_method_133_code 16 = .ok (.aload 4, 2) := by decide +kernel
theorem d43_18 : decode jdk_65_method_133_code 18 = .ok (.iconst 0, 1) := by decide +kernel
theorem d43_19 : decode jdk_65_method_133_code 19 = .ok (.aload_n 0, 1) := by decide +kernel
theorem d43_20 : decode jdk_65_method_133_code 20 = .ok (.arraylength, 1) := by decide +kernel
theorem d43_21 : decode jdk_65_method_133_code 21 = .ok (.iload_n 1, 1) := by decide +kernel
theorem d43_22 : decode jdk_65_method_133_code 22 = .ok (.isub, 1) := by decide +kernel
theorem d43_23 : decode jdk_65_method_133_code 23 = .ok (.iload_n 3, 1) := by decide +kernel
theorem d43_24 : decode jdk_65_method_133_code 24 = .ok (.invokestatic 304, 3) := by decide +kernel
theorem d43_27 : decode jdk_65_method_133_code 27 = .ok (.invokestatic 150, 3) := by decide +kernel
theorem d43_30 : decode jdk_65_method_133_code 30 = .ok (.aload 4, 2) := by decide +kernel
theorem d43_32 : decode jdk_65_method_133_code 32 = .ok (.areturn, 1) := by decide +kernel
theorem d44_0 : decode jdk_65_method_131_code 0 = .ok (.iload_n 1, 1) := by decide +kernel
theorem d44_1 : decode jdk_65_method_131_code 1 = .ok (.iload_n 0, 1) := by decide +kernel
theorem d44_2 : decode jdk_65_method_131_code 2 = .ok (.if_icmp .ge 35, 3) := by decide +kernel
theorem d44_37 : decode jdk_65_method_131_code 37 = .ok (.return_, 1) := by decide +kernel
theorem d45_0 : decode jdk_42_method_66_code 0 = .ok (.aload_n 0, 1) := by decide +kernel
theorem d45_1 : decode jdk_42_method_66_code 1 = .ok (.aload_n 1, 1) := by decide +kernel
theorem d45_2 : decode jdk_42_method_66_code 2 = .ok (.if_acmp .ne 5, 3) := by decide +kernel
theorem d45_5 : decode jdk_42_method_66_code 5 = .ok (.iconst 1, 1) := by decide +kernel
theorem d45_6 : decode jdk_42_method_66_code 6 = .ok (.ireturn, 1) := by decide +kernel
theorem d45_7 : decode jdk_42_method_66_code 7 = .ok (.aload_n 1, 1) := by decide +kernel
theorem d45_8 : decode jdk_42_method_66_code 8 = .ok (.instanceof 10, 3) := by decide +kernel
theorem d45_11 : decode jdk_42_method_66_code 11 = .ok (.ifCond .eq 43, 3) := by decide +kernel
theorem d45_14 : decode jdk_42_method_66_code 14 = .ok (.aload_n 1, 1) := by decide +kernel
theorem d45_15 : decode jdk_42_method_66_code 15 = .ok (.checkcast 10, 3) := by decide +kernel
theorem d45_18 : decode jdk_42_method_66_code 18 = .ok (.astore_n 2, 1) := by decide +kernel
theorem d45_19 : decode jdk_42_method_66_code 19 = .ok (.getstatic 38, 3) := by decide +kernel
theorem d45_22 : decode jdk_42_method_66_code 22 = .ok (.ifCond .eq 14, 3) := by decide +kernel
theorem d45_25 : decode jdk_42_method_66_code 25 = .ok (.aload_n 0, 1) := by decide +kernel
theorem d45_26 : decode jdk_42_method_66_code 26 = .ok (.getfield 15, 3) := by decide +kernel
theorem d45_29 : decode jdk_42_method_66_code 29 = .ok (.aload_n 2, 1) := by decide +kernel
theorem d45_30 : decode jdk_42_method_66_code 30 = .ok (.getfield 15, 3) := by decide +kernel
theorem d45_33 : decode jdk_42_method_66_code 33 = .ok (.if_icmp .ne 21, 3) := by decide +kernel
theorem d45_36 : decode jdk_42_method_66_code 36 = .ok (.aload_n 0, 1) := by decide +kernel
theorem d45_37 : decode jdk_42_method_66_code 37 = .ok (.getfield 9, 3) := by decide +kernel
theorem d45_40 : decode jdk_42_method_66_code 40 = .ok (.aload_n 2, 1) := by decide +kernel
theorem d45_41 : decode jdk_42_method_66_code 41 = .ok (.getfield 9, 3) := by decide +kernel
theorem d45_44 : decode jdk_42_method_66_code 44 = .ok (.invokestatic 541, 3) := by decide +kernel
theorem d45_47 : decode jdk_42_method_66_code 47 = .ok (.ifCond .eq 7, 3) := by decide +kernel
theorem d45_50 : decode jdk_42_method_66_code 50 = .ok (.iconst 1, 1) := by decide +kernel
theorem d45_51 : decode jdk_42_method_66_code 51 = .ok (.goto 4, 3) := by decide +kernel
theorem d45_54 : decode jdk_42_method_66_code 54 = .ok (.iconst 0, 1) := by decide +kernel
theorem d45_55 : decode jdk_42_method_66_code 55 = .ok (.ireturn, 1) := by decide +kernel
theorem d46_0 : decode jdk_43_method_13_code 0 = .ok (.aload_n 0, 1) := by decide +kernel
theorem d46_1 : decode jdk_43_method_13_code 1 = .ok (.arraylength, 1) := by decide +kernel
theorem d46_2 : decode jdk_43_method_13_code 2 = .ok (.aload_n 1, 1) := by decide +kernel
theorem d46_3 : decode jdk_43_method_13_code 3 = .ok (.arraylength, 1) := by decide +kernel
theorem d46_4 : decode jdk_43_method_13_code 4 = .ok (.if_icmp .ne 30, 3) := by decide +kernel
theorem d46_7 : decode jdk_43_method_13_code 7 = .ok (.iconst 0, 1) := by decide +kernel
theorem d46_8 : decode jdk_43_method_13_code 8 = .ok (.istore_n 2, 1) := by decide +kernel
theorem d46_9 : decode jdk_43_method_13_code 9 = .ok (.iload_n 2, 1) := by decide +kernel
theorem d46_10 : decode jdk_43_method_13_code 10 = .ok (.aload_n 0, 1) := by decide +kernel
theorem d46_11 : decode jdk_43_method_13_code 11 = .ok (.arraylength, 1) := by decide +kernel
theorem d46_12 : decode jdk_43_method_13_code 12 = .ok (.if_icmp .ge 20, 3) := by decide +kernel
theorem d46_15 : decode jdk_43_method_13_code 15 = .ok (.aload_n 0, 1) := by decide +kernel
theorem d46_16 : decode jdk_43_method_13_code 16 = .ok (.iload_n 2, 1) := by decide +kernel
theorem d46_17 : decode jdk_43_method_13_code 17 = .ok (.baload, 1) := by decide +kernel
theorem d46_18 : decode jdk_43_method_13_code 18 = .ok (.aload_n 1, 1) := by decide +kernel
theorem d46_19 : decode jdk_43_method_13_code 19 = .ok (.iload_n 2, 1) := by decide +kernel
theorem d46_20 : decode jdk_43_method_13_code 20 = .ok (.baload, 1) := by decide +kernel
theorem d46_21 : decode jdk_43_method_13_code 21 = .ok (.if_icmp .eq 5, 3) := by decide +kernel
theorem d46_24 : decode jdk_43_method_13_code 24 = .ok (.iconst 0, 1) := by decide +kernel
theorem d46_25 : decode jdk_43_method_13_code 25 = .ok (.ireturn, 1) := by decide +kernel
theorem d46_26 : decode jdk_43_method_13_code 26 = .ok (.iinc 2 1, 3) := by decide +kernel
theorem d46_29 : decode jdk_43_method_13_code 29 = .ok (.goto (-20), 3) := by decide +kernel
theorem d46_32 : decode jdk_43_method_13_code 32 = .ok (.iconst 1, 1) := by decide +kernel
theorem d46_33 : decode jdk_43_method_13_code 33 = .ok (.ireturn, 1) := by decide +kernel
theorem d46_34 : decode jdk_43_method_13_code 34 = .ok (.iconst 0, 1) := by decide +kernel
theorem d46_35 : decode jdk_43_method_13_code 35 = .ok (.ireturn, 1) := by decide +kernel
theorem d47_0 : decode prog_24_method_7_code 0 = .ok (.aload_n 0, 1) := by decide +kernel
theorem d47_1 : decode prog_24_method_7_code 1 = .ok (.aload_n 1, 1) := by decide +kernel
theorem d47_2 : decode prog_24_method_7_code 2 = .ok (.invokevirtual 40, 3) := by decide +kernel
theorem d47_5 : decode prog_24_method_7_code 5 = .ok (.aload_n 2, 1) := by decide +kernel
theorem d47_6 : decode prog_24_method_7_code 6 = .ok (.ifnonnull 16, 3) := by decide +kernel
theorem d47_9 : decode prog_24_method_7_code 9 = .ok (.aload_n 0, 1) := by decide +kernel
theorem d47_10 : decode prog_24_method_7_code 10 = .ok (.getfield 29, 3) := by decide +kernel
theorem d47_13 : decode prog_24_method_7_code 13 = .ok (.ldc 44, 2) := by decide +kernel
theorem d47_15 : decode prog_24_method_7_code 15 = .ok (.invokevirtual 46, 3) := by decide +kernel
theorem d47_18 : decode prog_24_method_7_code 18 = .ok (.pop, 1) := by decide +kernel
theorem d47_19 : decode prog_24_method_7_code 19 = .ok (.goto 8, 3) := by decide +kernel
theorem d47_27 : decode prog_24_method_7_code 27 = .ok (.return_, 1) := by decide +kernel
theorem d48_0 : decode jdk_67_method_7_code 0 = .ok (.aload_n 0, 1) := by decide +kernel
theorem d48_1 : decode jdk_67_method_7_code 1 = .ok (.aload_n 1, 1) := by decide +kernel
theorem d48_2 : decode jdk_67_method_7_code 2 = .ok (.invokespecial 29, 3) := by decide +kernel
theorem d48_5 : decode jdk_67_method_7_code 5 = .ok (.pop, 1) := by decide +kernel
theorem d48_6 : decode jdk_67_method_7_code 6 = .ok (.aload_n 0, 1) := by decide +kernel
theorem d48_7 : decode jdk_67_method_7_code 7 = .ok (.areturn, 1) := by decide +kernel
theorem d49_0 : decode jdk_68_method_22_code 0 = .ok (.aload_n 1, 1) := by decide +kernel
theorem d49_1 : decode jdk_68_method_22_code 1 = .ok (.ifnonnull 8, 3) := by decide +kernel
theorem d49_9 : decode jdk_68_method_22_code 9 = .ok (.aload_n 1, 1) := by decide +kernel
theorem d49_10 : decode jdk_68_method_22_code 10 = .ok (.invokevirtual 32, 3) := by decide +kernel
theorem d49_13 : decode jdk_68_method_22_code 13 = .ok (.istore_n 2, 1) := by decide +kernel
theorem d49_14 : decode jdk_68_method_22_code 14 = .ok (.aload_n 0, 1) := by decide +kernel
theorem d49_15 : decode jdk_68_method_22_code 15 = .ok (.aload_n 0, 1) := by decide +kernel
theorem d49_16 : decode jdk_68_method_22_code 16 = .ok (.getfield 79, 3) := by decide +kernel
theorem d49_19 : decode jdk_68_method_22_code 19 = .ok (.iload_n 2, 1) := by decide +kernel
theorem d49_20 : decode jdk_68_method_22_code 20 = .ok (.iadd, 1) := by decide +kernel
theorem d49_21 : decode jdk_68_method_22_code 21 = .ok (.invokevirtual 100, 3) := by decide +kernel
theorem d49_24 : decode jdk_68_method_22_code 24 = .ok (.aload_n 0, 1) := by decide +kernel
theorem d49_25 : decode jdk_68_method_22_code 25 = .ok (.aload_n 0, 1) := by decide +kernel
theorem d49_26 : decode jdk_68_method_22_code 26 = .ok (.getfield 79, 3) := by decide +kernel
theorem d49_29 : decode jdk_68_method_22_code 29 = .ok (.aload_n 1, 1) := by decide +kernel
theorem d49_30 : decode jdk_68_method_22_code 30 = .ok (.invokevirtual 208, 3) := by decide +kernel
theorem d49_33 : decode jdk_68_method_22_code 33 = .ok (.aload_n 0, 1) := by decide +kernel
theorem d49_34 : decode jdk_68_method_22_code 34 = .ok (.dup, 1) := by decide +kernel
theorem d49_35 : decode jdk_68_method_22_code 35 = .ok (.getfield 79, 3) := by decide +kernel
theorem d49_38 : decode jdk_68_method_22_code 38 = .ok (.iload_n 2, 1) := by decide +kernel
theorem d49_39 : decode jdk_68_method_22_code 39 = .ok (.iadd, 1) := by decide +kernel
theorem d49_40 : decode jdk_68_method_22_code 40 = .ok (.putfield 79, 3) := by decide +kernel
theorem d49_43 : decode jdk_68_method_22_code 43 = .ok (.aload_n 0, 1) := by decide +kernel
theorem d49_44 : decode jdk_68_method_22_code 44 = .ok (.areturn, 1) := by decide +kernel
theorem d50_0 : decode jdk_68_method_73_code 0 = .ok (.aload_n 0, 1) := by decide +kernel
theorem d50_1 : decode jdk_68_method_73_code 1 = .ok (.aload_n 2, 1) := by decide +kernel
theorem d50_2 : decode jdk_68_method_73_code 2 = .ok (.invokevirtual 397, 3) := by decide +kernel
theorem d50_5 : decode jdk_68_method_73_code 5 = .ok (.aload_n 2, 1) := by decide +kernel
theorem d50_6 : decode jdk_68_method_73_code 6 = .ok (.aload_n 0, 1) := by decide +kernel
theorem d50_7 : decode jdk_68_method_73_code 7 = .ok (.getfield 15, 3) := by decide +kernel
theorem d50_10 : decode jdk_68_method_73_code 10 = .ok (.iload_n 1, 1) := by decide +kernel
theorem d50_11 : decode jdk_68_method_73_code 11 = .ok (.aload_n 0, 1) := by decide +kernel
theorem d50_12 : decode jdk_68_method_73_code 12 = .ok (.getfield 22, 3) := by decide +kernel
theorem d50_15 : decode jdk_68_method_73_code 15 = .ok (.invokevirtual 399, 3) := by decide +kernel
theorem d50_18 : decode jdk_68_method_73_code 18 = .ok (.return_, 1) := by decide +kernel
theorem d51_0 : decode jdk_68_method_71_code 0 = .ok (.getstatic 18, 3) := by decide +kernel
theorem d51_3 : decode jdk_68_method_71_code 3 = .ok (.ifCond .eq 18, 3) := by decide +kernel
theorem d51_6 : decode jdk_68_method_71_code 6 = .ok (.aload_n 0, 1) := by decide +kernel
theorem d51_7 : decode jdk_68_method_71_code 7 = .ok (.getfield 22, 3) := by decide +kernel
theorem d51_10 : decode jdk_68_method_71_code 10 = .ok (.aload_n 1, 1) := by decide +kernel
theorem d51_11 : decode jdk_68_method_71_code 11 = .ok (.invokevirtual 40, 3) := by decide +kernel
theorem d51_14 : decode jdk_68_method_71_code 14 = .ok (.if_icmp .eq 7, 3) := by decide +kernel
theorem d51_21 : decode jdk_68_method_71_code 21 = .ok (.return_, 1) := by decide +kernel
theorem d52_0 : decode jdk_42_method_147_code 0 = .ok (.aload_n 0, 1) := by decide +kernel
theorem d52_1 : decode jdk_42_method_147_code 1 = .ok (.invokevirtual 335, 3) := by decide +kernel
theorem d52_4 : decode jdk_42_method_147_code 4 = .ok (.iload_n 3, 1) := by decide +kernel
theorem d52_5 : decode jdk_42_method_147_code 5 = .ok (.if_icmp .ne 23, 3) := by decide +kernel
theorem d52_8 : decode jdk_42_method_147_code 8 = .ok (.aload_n 0, 1) := by decide +kernel
theorem d52_9 : decode jdk_42_method_147_code 9 = .ok (.getfield 9, 3) := by decide +kernel
theorem d52_12 : decode jdk_42_method_147_code 12 = .ok (.iconst 0, 1) := by decide +kernel
theorem d52_13 : decode jdk_42_method_147_code 13 = .ok (.aload_n 1, 1) := by decide +kernel
theorem d52_14 : decode jdk_42_method_147_code 14 = .ok (.iload_n 2, 1) := by decide +kernel
theorem d52_15 : decode jdk_42_method_147_code 15 = .ok (.iload_n 3, 1) := by decide +kernel
theorem d52_16 : decode jdk_42_method_147_code 16 = .ok (.ishl, 1) := by decide +kernel
theorem d52_17 : decode jdk_42_method_147_code 17 = .ok (.aload_n 0, 1) := by decide +kernel
theorem d52_18 : decode jdk_42_method_147_code 18 = .ok (.getfield 9, 3) := by decide +kernel
theorem d52_21 : decode jdk_42_method_147_code 21 = .ok (.arraylength, 1) := by decide +kernel
theorem d52_22 : decode jdk_42_method_147_code 22 = .ok (.invokestatic 212, 3) := by decide +kernel
theorem d52_25 : decode jdk_42_method_147_code 25 = .ok (.goto 18, 3) := by decide +kernel
theorem d52_43 : decode jdk_42_method_147_code 43 = .ok (.return_, 1) := by decide +kernel
theorem d53_0 : decode prog_24_method_4_code 0 = .ok (.aload_n 0, 1) := by decide +kernel
theorem d53_1 : decode prog_24_method_4_code 1 = .ok (.getfield 29, 3) := by decide +kernel
theorem d53_4 : decode prog_24_method_4_code 4 = .ok (.bipush 125, 2) := by decide +kernel
theorem d53_6 : decode prog_24_method_4_code 6 = .ok (.invokevirtual 36, 3) := by decide +kernel
theorem d53_9 : decode prog_24_method_4_code 9 = .ok (.pop, 1) := by decide +kernel
theorem d53_10 : decode prog_24_method_4_code 10 = .ok (.return_, 1) := by decide +kernel
theorem d54_0 : decode prog_24_method_9_code 0 = .ok (.aload_n 0, 1) := by decide +kernel
theorem d54_1 : decode prog_24_method_9_code 1 = .ok (.aload_n 1, 1) := by decide +kernel
theorem d54_2 : decode prog_24_method_9_code 2 = .ok (.invokevirtual 40, 3) := by decide +kernel
theorem d54_5 : decode prog_24_method_9_code 5 = .ok (.aload_n 0, 1) := by decide +kernel
theorem d54_6 : decode prog_24_method_9_code 6 = .ok (.getfield 29, 3) := by decide +kernel
theorem d54_9 : decode prog_24_method_9_code 9 = .ok (.iload_n 2, 1) := by decide +kernel
theorem d54_10 : decode prog_24_method_9_code 10 = .ok (.invokevirtual 55, 3) := by decide +kernel
theorem d54_13 : decode prog_24_method_9_code 13 = .ok (.pop, 1) := by decide +kernel
theorem d54_14 : decode prog_24_method_9_code 14 = .ok (.return_, 1) := by decide +kernel
theorem d55_0 : decode jdk_67_method_13_code 0 = .ok (.aload_n 0, 1) := by decide +kernel
theorem d55_1 : decode jdk_67_method_13_code 1 = .ok (.iload_n 1, 1) := by decide +kernel
theorem d55_2 : decode jdk_67_method_13_code 2 = .ok (.invokespecial 47, 3) := by decide +kernel
theorem d55_5 : decode jdk_67_method_13_code 5 = .ok (.pop, 1) := by decide +kernel
theorem d55_6 : decode jdk_67_method_13_code 6 = .ok (.aload_n 0, 1) := by decide +kernel
theorem d55_7 : decode jdk_67_method_13_code 7 = .ok (.areturn, 1) := by decide +kernel
theorem d56_0 : decode jdk_68_method_30_code 0 = .ok (.aload_n 0, 1) := by decide +kernel
theorem d56_1 : decode jdk_68_method_30_code 1 = .ok (.aload_n 0, 1) := by decide +kernel
theorem d56_2 : decode jdk_68_method_30_code 2 = .ok (.getfield 79, 3) := by decide +kernel
theorem d56_5 : decode jdk_68_method_30_code 5 = .ok (.iload_n 1, 1) := by decide +kernel
theorem d56_6 : decode jdk_68_method_30_code 6 = .ok (.ifCond .eq 7, 3) := by decide +kernel
theorem d56_9 : decode jdk_68_method_30_code 9 = .ok (.iconst 4, 1) := by decide +kernel
theorem d56_10 : decode jdk_68_method_30_code 10 = .ok (.goto 4, 3) := by decide +kernel
theorem d56_13 : decode jdk_68_method_30_code 13 = .ok (.iconst 5, 1) := by decide +kernel
theorem d56_14 : decode jdk_68_method_30_code 14 = .ok (.iadd, 1) := by decide +kernel
theorem d56_15 : decode jdk_68_method_30_code 15 = .ok (.invokevirtual 100, 3) := by decide +kernel
theorem d56_18 : decode jdk_68_method_30_code 18 = .ok (.aload_n 0, 1) := by decide +kernel
theorem d56_19 : decode jdk_68_method_30_code 19 = .ok (.getfield 79, 3) := by decide +kernel
theorem d56_22 : decode jdk_68_method_30_code 22 = .ok (.istore_n 2, 1) := by decide +kernel
theorem d56_23 : decode jdk_68_method_30_code 23 = .ok (.aload_n 0, 1) := by decide +kernel
theorem d56_24 : decode jdk_68_method_30_code 24 = .ok (.getfield 15, 3) := by decide +kernel
theorem d56_27 : decode jdk_68_method_30_code 27 = .ok (.astore_n 3, 1) := by decide +kernel
theorem d56_28 : decode jdk_68_method_30_code 28 = .ok (.aload_n 0, 1) := by decide +kernel
theorem d56_29 : decode jdk_68_method_30_code 29 = .ok (.invokevirtual 83, 3) := by decide +kernel
theorem d56_32 : decode jdk_68_method_30_code 32 = .ok (.ifCond .eq 85, 3) := by decide +kernel
theorem d56_35 : decode jdk_68_method_30_code 35 = .ok (.iload_n 1, 1) := by decide +kernel
theorem d56_36 : decode jdk_68_method_30_code 36 = .ok (.ifCond .eq 38, 3) := by decide +kernel
theorem d56_39 : decode jdk_68_method_30_code 39 = .ok (.aload_n 3, 1) := by decide +kernel
theorem d56_40 : decode jdk_68_method_30_code 40 = .ok (.iload_n 2, 1) := by decide +kernel
theorem d56_41 : decode jdk_68_method_30_code 41 = .ok (.iinc 2 1, 3) := by decide +kernel
theorem d56_44 : decode jdk_68_method_30_code 44 = .ok (.bipush 116, 2) := by decide +kernel
theorem d56_46 : decode jdk_68_method_30_code 46 = .ok (.bastore, 1) := by decide +kernel
theorem d56_47 : decode jdk_68_method_30_code 47 = .ok (.aload_n 3, 1) := by decide +kernel
theorem d56_48 : decode jdk_68_method_30_code 48 = .ok (.iload_n 2, 1) := by decide +kernel
theorem d56_49 : decode jdk_68_method_30_code 49 = .ok (.iinc 2 1, 3) := by decide +kernel
theorem d56_52 : decode jdk_68_method_30_code 52 = .ok (.bipush 114, 2) := by decide +kernel
theorem d56_54 : decode jdk_68_method_30_code 54 = .ok (.bastore, 1) := by decide +kernel
theorem d56_55 : decode jdk_68_method_30_code 55 = .ok (.aload_n 3, 1) := by decide +kernel
theorem d56_56 : decode jdk_68_method_30_code 56 = .ok (.iload_n 2, 1) := by decide +kernel
theorem d56_57 : decode jdk_68_method_30_code 57 = .ok (.iinc 2 1, 3) := by decide +kernel
theorem d56_60 : decode jdk_68_method_30_code 60 = .ok (.bipush 117, 2) := by decide +kernel
theorem d56_62 : decode jdk_68_method_30_code 62 = .ok (.bastore, 1) := by decide +kernel
theorem d56_63 : decode jdk_68_method_30_code 63 = .ok (.aload_n 3, 1) := by decide +kernel
theorem d56_64 : decode jdk_68_method_30_code 64 = .ok (.iload_n 2, 1) := by decide +kernel
theorem d56_65 : decode jdk_68_method_30_code 65 = .ok (.iinc 2 1, 3) := by decide +kernel
theorem d56_68 : decode jdk_68_method_30_code 68 = .ok (.bipush 101, 2) := by decide +kernel
theorem d56_70 : decode jdk_68_method_30_code 70 = .ok (.bastore, 1) := by decide +kernel
theorem d56_71 : decode jdk_68_method_30_code 71 = .ok (.goto 83, 3) := by decide +kernel
theorem d56_74 : decode jdk_68_method_30_code 74 = .ok (.aload_n 3, 1) := by decide +kernel
theorem d56_75 : decode jdk_68_method_30_code 75 = .ok (.iload_n 2, 1) := by decide +kernel
theorem d56_76 : decode jdk_68_method_30_code 76 = .ok (.iinc 2 1, 3) := by decide +kernel
theorem d56_79 : decode jdk_68_method_30_code 79 = .ok (.bipush 102, 2) := by decide +kernel
theorem d56_81 : decode jdk_68_method_30_code 81 = .ok (.bastore, 1) := by decide +kernel
theorem d56_82 : decode jdk_68_method_30_code 82 = .ok (.aload_n 3, 1) := by decide +kernel
theorem d56_83 : decode jdk_68_method_30_code 83 = .ok (.iload_n 2, 1) := by decide +kernel
theorem d56_84 : decode jdk_68_method_30_code 84 = .ok (.iinc 2 1, 3) := by decide +kernel
theorem d56_87 : decode jdk_68_method_30_code 87 = .ok (.bipush 97, 2) := by decide +kernel
theorem d56_89 : decode jdk_68_method_30_code 89 = .ok (.bastore, 1) := by decide +kernel
theorem d56_90 : decode jdk_68_method_30_code 90 = .ok (.aload_n 3, 1) := by decide +kernel
theorem d56_91 : decode jdk_68_method_30_code 91 = .ok (.iload_n 2, 1) := by decide +kernel
theorem d56_92 : decode jdk_68_method_30_code 92 = .ok (.iinc 2 1, 3) := by decide +kernel
theorem d56_95 : decode jdk_68_method_30_code 95 = .ok (.bipush 108, 2) := by decide +kernel
theorem d56_97 : decode jdk_68_method_30_code 97 = .ok (.bastore, 1) := by decide +kernel
theorem d56_98 : decode jdk_68_method_30_code 98 = .ok (.aload_n 3, 1) := by decide +kernel
theorem d56_99 : decode jdk_68_method_30_code 99 = .ok (.iload_n 2, 1) := by decide +kernel
theorem d56_100 : decode jdk_68_method_30_code 100 = .ok (.iinc 2 1, 3) := by decide +kernel
theorem d56_103 : decode jdk_68_method_30_code 103 = .ok (.bipush 115, 2) := by decide +kernel
theorem d56_105 : decode jdk_68_method_30_code 105 = .ok (.bastore, 1) := by decide +kernel
theorem d56_106 : decode jdk_68_method_30_code 106 = .ok (.aload_n 3, 1) := by decide +kernel
theorem d56_107 : decode jdk_68_method_30_code 107 = .ok (.iload_n 2, 1) := by decide +kernel
theorem d56_108 : decode jdk_68_method_30_code 108 = .ok (.iinc 2 1, 3) := by decide +kernel
theorem d56_111 : decode jdk_68_method_30_code 111 = .ok (.bipush 101, 2) := by decide +kernel
theorem d56_113 : decode jdk_68_method_30_code 113 = .ok (.bastore, 1) := by decide +kernel
theorem d56_114 : decode jdk_68_method_30_code 114 = .ok (.goto 40, 3) := by decide +kernel
theorem d56_154 : decode jdk_68_method_30_code 154 = .ok (.aload_n 0, 1) := by decide +kernel
theorem d56_155 : decode jdk_68_method_30_code 155 = .ok (.iload_n 2, 1) := by decide +kernel
theorem d56_156 : decode jdk_68_method_30_code 156 = .ok (.putfield 79, 3) := by decide +kernel
theorem d56_159 : decode jdk_68_method_30_code 159 = .ok (.aload_n 0, 1) := by decide +kernel
theorem d56_160 : decode jdk_68_method_30_code 160 = .ok (.areturn, 1) := by decide +kernel
theorem d57_0 : decode prog_24_method_6_code 0 = .ok (.aload_n 0, 1) := by decide +kernel
theorem d57_1 : decode prog_24_method_6_code 1 = .ok (.getfield 29, 3) := by decide +kernel
theorem d57_4 : decode prog_24_method_6_code 4 = .ok (.bipush 93, 2) := by decide +kernel
theorem d57_6 : decode prog_24_method_6_code 6 = .ok (.invokevirtual 36, 3) := by decide +kernel
theorem d57_9 : decode prog_24_method_6_code 9 = .ok (.pop, 1) := by decide +kernel
theorem d57_10 : decode prog_24_method_6_code 10 = .ok (.return_, 1) := by decide +kernel
theorem d58_0 : decode prog_24_method_8_code 0 = .ok (.aload_n 0, 1) := by decide +kernel
theorem d58_1 : decode prog_24_method_8_code 1 = .ok (.aload_n 1, 1) := by decide +kernel
theorem d58_2 : decode prog_24_method_8_code 2 = .ok (.invokevirtual 40, 3) := by decide +kernel
theorem d58_5 : decode prog_24_method_8_code 5 = .ok (.aload_n 0, 1) := by decide +kernel
theorem d58_6 : decode prog_24_method_8_code 6 = .ok (.getfield 29, 3) := by decide +kernel
theorem d58_9 : decode prog_24_method_8_code 9 = .ok (.lload_n 2, 1) := by decide +kernel
theorem d58_10 : decode prog_24_method_8_code 10 = .ok (.invokevirtual 52, 3) := by decide +kernel
theorem d58_13 : decode prog_24_method_8_code 13 = .ok (.pop, 1) := by decide +kernel
theorem d58_14 : decode prog_24_method_8_code 14 = .ok (.return_, 1) := by decide +kernel
theorem d59_0 : decode jdk_67_method_16_code 0 = .ok (.aload_n 0, 1) := by decide +kernel
theorem d59_1 : decode jdk_67_method_16_code 1 = .ok (.lload_n 1, 1) := by decide +kernel
theorem d59_2 : decode jdk_67_method_16_code 2 = .ok (.invokespecial 56, 3) := by decide +kernel
theorem d59_5 : decode jdk_67_method_16_code 5 = .ok (.pop, 1) := by decide +kernel
theorem d59_6 : decode jdk_67_method_16_code 6 = .ok (.aload_n 0, 1) := by decide +kernel
theorem d59_7 : decode jdk_67_method_16_code 7 = .ok (.areturn, 1) := by decide +kernel
theorem d60_0 : decode jdk_68_method_33_code 0 = .ok (.aload_n 0, 1) := by decide +kernel
theorem d60_1 : decode jdk_68_method_33_code 1 = .ok (.getfield 79, 3) := by decide +kernel
theorem d60_4 : decode jdk_68_method_33_code 4 = .ok (.istore_n 3, 1) := by decide +kernel
theorem d60_5 : decode jdk_68_method_33_code 5 = .ok (.iload_n 3, 1) := by decide +kernel
theorem d60_6 : decode jdk_68_method_33_code 6 = .ok (.lload_n 1, 1) := by decide +kernel
theorem d60_7 : decode jdk_68_method_33_code 7 = .ok (.invokestatic 254, 3) := by decide +kernel
theorem d60_10 : decode jdk_68_method_33_code 10 = .ok (.iadd, 1) := by decide +kernel
theorem d60_11 : decode jdk_68_method_33_code 11 = .ok (.istore 4, 2) := by decide +kernel
theorem d60_13 : decode jdk_68_method_33_code 13 = .ok (.aload_n 0, 1) := by decide +kernel
theorem d60_14 : decode jdk_68_method_33_code 14 = .ok (.iload 4, 2) := by decide +kernel
theorem d60_16 : decode jdk_68_method_33_code 16 = .ok (.invokevirtual 100, 3) := by decide +kernel
theorem d60_19 : decode jdk_68_method_33_code 19 = .ok (.aload_n 0, 1) := by decide +kernel
theorem d60_20 : decode jdk_68_method_33_code 20 = .ok (.invokevirtual 83, 3) := by decide +kernel
theorem d60_23 : decode jdk_68_method_33_code 23 = .ok (.ifCond .eq 17, 3) := by decide +kernel
theorem d60_26 : decode jdk_68_method_33_code 26 = .ok (.lload_n 1, 1) := by decide +kernel
theorem d60_27 : decode jdk_68_method_33_code 27 = .ok (.iload 4, 2) := by decide +kernel
theorem d60_29 : decode jdk_68_method_33_code 29 = .ok (.aload_n 0, 1) := by decide +kernel
theorem d60_30 : decode jdk_68_method_33_code 30 = .ok (.getfield 15, 3) := by decide +kernel
theorem d60_33 : decode jdk_68_method_33_code 33 = .ok (.invokestatic 259, 3) := by decide +kernel
theorem d60_36 : decode jdk_68_method_33_code 36 = .ok (.pop, 1) := by decide +kernel
theorem d60_37 : decode jdk_68_method_33_code 37 = .ok (.goto 15, 3) := by decide +kernel
theorem d60_52 : decode jdk_68_method_33_code 52 = .ok (.aload_n 0, 1) := by decide +kernel
theorem d60_53 : decode jdk_68_method_33_code 53 = .ok (.iload 4, 2) := by decide +kernel
theorem d60_55 : decode jdk_68_method_33_code 55 = .ok (.putfield 79, 3) := by decide +kernel
theorem d60_58 : decode jdk_68_method_33_code 58 = .ok (.aload_n 0, 1) := by decide +kernel
theorem d60_59 : decode jdk_68_method_33_code 59 = .ok (.areturn, 1) := by decide +kernel
theorem d61_0 : decode jdk_35_method_15_code 0 = .ok (.iconst 1, 1) := by decide +kernel
theorem d61_1 : decode jdk_35_method_15_code 1 = .ok (.istore_n 2, 1) := by decide +kernel
theorem d61_2 : decode jdk_35_method_15_code 2 = .ok (.lload_n 0, 1) := by decide +kernel
theorem d61_3 : decode jdk_35_method_15_code 3 = .ok (.lconst 0, 1) := by decide +kernel
theorem d61_4 : decode jdk_35_method_15_code 4 = .ok (.lcmp, 1) := by decide +kernel
theorem d61_5 : decode jdk_35_method_15_code 5 = .ok (.ifCond .lt 8, 3) := by decide +kernel
theorem d61_8 : decode jdk_35_method_15_code 8 = .ok (.iconst 0, 1) := by decide +kernel
theorem d61_9 : decode jdk_35_method_15_code 9 = .ok (.istore_n 2, 1) := by decide +kernel
theorem d61_10 : decode jdk_35_method_15_code 10 = .ok (.lload_n 0, 1) := by decide +kernel
theorem d61_11 : decode jdk_35_method_15_code 11 = .ok (.lneg, 1) := by decide +kernel
theorem d61_12 : decode jdk_35_method_15_code 12 = .ok (.lstore_n 0, 1) := by decide +kernel
theorem d61_13 : decode jdk_35_method_15_code 13 = .ok (.ldc2_w 140, 3) := by decide +kernel
theorem d61_16 : decode jdk_35_method_15_code 16 = .ok (.lstore_n 3, 1) := by decide +kernel
theorem d61_17 : decode jdk_35_method_15_code 17 = .ok (.iconst 1, 1) := by decide +kernel
theorem d61_18 : decode jdk_35_method_15_code 18 = .ok (.istore 5, 2) := by decide +kernel
theorem d61_20 : decode jdk_35_method_15_code 20 = .ok (.iload 5, 2) := by decide +kernel
theorem d61_22 : decode jdk_35_method_15_code 22 = .ok (.bipush 19, 2) := by decide +kernel
theorem d61_24 : decode jdk_35_method_15_code 24 = .ok (.if_icmp .ge 26, 3) := by decide +kernel
theorem d61_27 : decode jdk_35_method_15_code 27 = .ok (.lload_n 0, 1) := by decide +kernel
theorem d61_28 : decode jdk_35_method_15_code 28 = .ok (.lload_n 3, 1) := by decide +kernel
theorem d61_29 : decode jdk_35_method_15_code 29 = .ok (.lcmp, 1) := by decide +kernel
theorem d61_30 : decode jdk_35_method_15_code 30 = .ok (.ifCond .le 8, 3) := by decide +kernel
theorem d61_33 : decode jdk_35_method_15_code 33 = .ok (.iload 5, 2) := by decide +kernel
theorem d61_35 : decode jdk_35_method_15_code 35 = .ok (.iload_n 2, 1) := by decide +kernel
theorem d61_36 : decode jdk_35_method_15_code 36 = .ok (.iadd, 1) := by decide +kernel
theorem d61_37 : decode jdk_35_method_15_code 37 = .ok (.ireturn, 1) := by decide +kernel
theorem d61_38 : decode jdk_35_method_15_code 38 = .ok (.ldc2_w 53, 3) := by decide +kernel
theorem d61_41 : decode jdk_35_method_15_code 41 = .ok (.lload_n 3, 1) := by decide +kernel
theorem d61_42 : decode jdk_35_method_15_code 42 = .ok (.lmul, 1) := by decide +kernel
theorem d61_43 : decode jdk_35_method_15_code 43 = .ok (.lstore_n 3, 1) := by decide +kernel
theorem d61_44 : decode jdk_35_method_15_code 44 = .ok (.iinc 5 1, 3) := by decide +kernel
theorem d61_47 : decode jdk_35_method_15_code 47 = .ok (.goto (-27), 3) := by decide +kernel
theorem d61_50 : decode jdk_35_method_15_code 50 = .ok (.bipush 19, 2) := by decide +kernel
theorem d61_52 : decode jdk_35_method_15_code 52 = .ok (.iload_n 2, 1) := by decide +kernel
theorem d61_53 : decode jdk_35_method_15_code 53 = .ok (.iadd, 1) := by decide +kernel
theorem d61_54 : decode jdk_35_method_15_code 54 = .ok (.ireturn, 1) := by decide +kernel
theorem d62_0 : decode jdk_35_method_14_code 0 = .ok (.iload_n 2, 1) := by decide +kernel
theorem d62_1 : decode jdk_35_method_14_code 1 = .ok (.istore 7, 2) := by decide +kernel
theorem d62_3 : decode jdk_35_method_14_code 3 = .ok (.lload_n 0, 1) := by decide +kernel
theorem d62_4 : decode jdk_35_method_14_code 4 = .ok (.lconst 0, 1) := by decide +kernel
theorem d62_5 : decode jdk_35_method_14_code 5 = .ok (.lcmp, 1) := by decide +kernel
theorem d62_6 : decode jdk_35_method_14_code 6 = .ok (.ifCond .ge 7, 3) := by decide +kernel
theorem d62_9 : decode jdk_35_method_14_code 9 = .ok (.iconst 1, 1) := by decide +kernel
theorem d62_10 : decode jdk_35_method_14_code 10 = .ok (.goto 4, 3) := by decide +kernel
theorem d62_13 : decode jdk_35_method_14_code 13 = .ok (.iconst 0, 1) := by decide +kernel
theorem d62_14 : decode jdk_35_method_14_code 14 = .ok (.istore 8, 2) := by decide +kernel
theorem d62_16 : decode jdk_35_method_14_code 16 = .ok (.iload 8, 2) := by decide +kernel
theorem d62_18 : decode jdk_35_method_14_code 18 = .ok (.ifCond .ne 6, 3) := by decide +kernel
theorem d62_21 : decode jdk_35_method_14_code 21 = .ok (.lload_n 0, 1) := by decide +kernel
theorem d62_22 : decode jdk_35_method_14_code 22 = .ok (.lneg, 1) := by decide +kernel
theorem d62_23 : decode jdk_35_method_14_code 23 = .ok (.lstore_n 0, 1) := by decide +kernel
theorem d62_24 : decode jdk_35_method_14_code 24 = .ok (.lload_n 0, 1) := by decide +kernel
theorem d62_25 : decode jdk_35_method_14_code 25 = .ok (.ldc2_w 129, 3) := by decide +kernel
theorem d62_28 : decode jdk_35_method_14_code 28 = .ok (.lcmp, 1) := by decide +kernel
theorem d62_29 : decode jdk_35_method_14_code 29 = .ok (.ifCond .gt 53, 3) := by decide +kernel
theorem d62_32 : decode jdk_35_method_14_code 32 = .ok (.lload_n 0, 1) := by decide +kernel
theorem d62_33 : decode jdk_35_method_14_code 33 = .ok (.ldc2_w 131, 3) := by decide +kernel
theorem d62_36 : decode jdk_35_method_14_code 36 = .ok (.ldiv, 1) := by decide +kernel
theorem d62_37 : decode jdk_35_method_14_code 37 = .ok (.lstore 4, 2) := by decide +kernel
theorem d62_39 : decode jdk_35_method_14_code 39 = .ok (.lload 4, 2) := by decide +kernel
theorem d62_41 : decode jdk_35_method_14_code 41 = .ok (.ldc2_w 131, 3) := by decide +kernel
theorem d62_44 : decode jdk_35_method_14_code 44 = .ok (.lmul, 1) := by decide +kernel
theorem d62_45 : decode jdk_35_method_14_code 45 = .ok (.lload_n 0, 1) := by decide +kernel
theorem d62_46 : decode jdk_35_method_14_code 46 = .ok (.lsub, 1) := by decide +kernel
theorem d62_47 : decode jdk_35_method_14_code 47 = .ok (.l2i, 1) := by decide +kernel
theorem d62_48 : decode jdk_35_method_14_code 48 = .ok (.istore 6, 2) := by decide +kernel
theorem d62_50 : decode jdk_35_method_14_code 50 = .ok (.lload 4, 2) := by decide +kernel
theorem d62_52 : decode jdk_35_method_14_code 52 = .ok (.lstore_n 0, 1) := by decide +kernel
theorem d62_53 : decode jdk_35_method_14_code 53 = .ok (.aload_n 3, 1) := by decide +kernel
theorem d62_54 : decode jdk_35_method_14_code 54 = .ok (.iinc 7 (-1), 3) := by decide +kernel
theorem d62_57 : decode jdk_35_method_14_code 57 = .ok (.iload 7, 2) := by decide +kernel
theorem d62_59 : decode jdk_35_method_14_code 59 = .ok (.getstatic 133, 3) := by decide +kernel
theorem d62_62 : decode jdk_35_method_14_code 62 = .ok (.iload 6, 2) := by decide +kernel
theorem d62_64 : decode jdk_35_method_14_code 64 = .ok (.baload, 1) := by decide +kernel
theorem d62_65 : decode jdk_35_method_14_code 65 = .ok (.bastore, 1) := by decide +kernel
theorem d62_66 : decode jdk_35_method_14_code 66 = .ok (.aload_n 3, 1) := by decide +kernel
theorem d62_67 : decode jdk_35_method_14_code 67 = .ok (.iinc 7 (-1), 3) := by decide +kernel
theorem d62_70 : decode jdk_35_method_14_code 70 = .ok (.iload 7, 2) := by decide +kernel
theorem d62_72 : decode jdk_35_method_14_code 72 = .ok (.getstatic 137, 3) := by decide +kernel
theorem d62_75 : decode jdk_35_method_14_code 75 = .ok (.iload 6, 2) := by decide +kernel
theorem d62_77 : decode jdk_35_method_14_code 77 = .ok (.baload, 1) := by decide +kernel
theorem d62_78 : decode jdk_35_method_14_code 78 = .ok (.bastore, 1) := by decide +kernel
theorem d62_79 : decode jdk_35_method_14_code 79 = .ok (.goto (-55), 3) := by decide +kernel
theorem d62_82 : decode jdk_35_method_14_code 82 = .ok (.lload_n 0, 1) := by decide +kernel
theorem d62_83 : decode jdk_35_method_14_code 83 = .ok (.l2i, 1) := by decide +kernel
theorem d62_84 : decode jdk_35_method_14_code 84 = .ok (.istore 10, 2) := by decide +kernel
theorem d62_86 : decode jdk_35_method_14_code 86 = .ok (.iload 10, 2) := by decide +kernel
theorem d62_88 : decode jdk_35_method_14_code 88 = .ok (.bipush (-100), 2) := by decide +kernel
theorem d62_90 : decode jdk_35_method_14_code 90 = .ok (.if_icmp .gt 53, 3) := by decide +kernel
theorem d62_93 : decode jdk_35_method_14_code 93 = .ok (.iload 10, 2) := by decide +kernel
theorem d62_95 : decode jdk_35_method_14_code 95 = .ok (.bipush 100, 2) := by decide +kernel
theorem d62_97 : decode jdk_35_method_14_code 97 = .ok (.idiv, 1) := by decide +kernel
theorem d62_98 : decode jdk_35_method_14_code 98 = .ok (.istore 9, 2) := by decide +kernel
theorem d62_100 : decode jdk_35_method_14_code 100 = .ok (.iload 9, 2) := by decide +kernel
theorem d62_102 : decode jdk_35_method_14_code 102 = .ok (.bipush 100, 2) := by decide +kernel
theorem d62_104 : decode jdk_35_method_14_code 104 = .ok (.imul, 1) := by decide +kernel
theorem d62_105 : decode jdk_35_method_14_code 105 = .ok (.iload 10, 2) := by decide +kernel
theorem d62_107 : decode jdk_35_method_14_code 107 = .ok (.isub, 1) := by decide +kernel
theorem d62_108 : decode jdk_35_method_14_code 108 = .ok (.istore 6, 2) := by decide +kernel
theorem d62_110 : decode jdk_35_method_14_code 110 = .ok (.iload 9, 2) := by decide +kernel
theorem d62_112 : decode jdk_35_method_14_code 112 = .ok (.istore 10, 2) := by decide +kernel
theorem d62_114 : decode jdk_35_method_14_code 114 = .ok (.aload_n 3, 1) := by decide +kernel
theorem d62_115 : decode jdk_35_method_14_code 115 = .ok (.iinc 7 (-1), 3) := by decide +kernel
theorem d62_118 : decode jdk_35_method_14_code 118 = .ok (.iload 7, 2) := by decide +kernel
theorem d62_120 : decode jdk_35_method_14_code 120 = .ok (.getstatic 133, 3) := by decide +kernel
theorem d62_123 : decode jdk_35_method_14_code 123 = .ok (.iload 6, 2) := by decide +kernel
theorem d62_125 : decode jdk_35_method_14_code 125 = .ok (.baload, 1) := by decide +kernel
theorem d62_126 : decode jdk_35_method_14_code 126 = .ok (.bastore, 1) := by decide +kernel
theorem d62_127 : decode jdk_35_method_14_code 127 = .ok (.aload_n 3, 1) := by decide +kernel
theorem d62_128 : decode jdk_35_method_14_code 128 = .ok (.iinc 7 (-1), 3) := by decide +kernel
theorem d62_131 : decode jdk_35_method_14_code 131 = .ok (.iload 7, 2) := by decide +kernel
theorem d62_133 : decode jdk_35_method_14_code 133 = .ok (.getstatic 137, 3) := by decide +kernel
theorem d62_136 : decode jdk_35_method_14_code 136 = .ok (.iload 6, 2) := by decide +kernel
theorem d62_138 : decode jdk_35_method_14_code 138 = .ok (.baload, 1) := by decide +kernel
theorem d62_139 : decode jdk_35_method_14_code 139 = .ok (.bastore, 1) := by decide +kernel
theorem d62_140 : decode jdk_35_method_14_code 140 = .ok (.goto (-54), 3) := by decide +kernel
theorem d62_143 : decode jdk_35_method_14_code 143 = .ok (.aload_n 3, 1) := by decide +kernel
theorem d62_144 : decode jdk_35_method_14_code 144 = .ok (.iinc 7 (-1), 3) := by decide +kernel
theorem d62_147 : decode jdk_35_method_14_code 147 = .ok (.iload 7, 2) := by decide +kernel
theorem d62_149 : decode jdk_35_method_14_code 149 = .ok (.getstatic 133, 3) := by decide +kernel
theorem d62_152 : decode jdk_35_method_14_code 152 = .ok (.iload 10, 2) := by decide +kernel
theorem d62_154 : decode jdk_35_method_14_code 154 = .ok (.ineg, 1) := by decide +kernel
theorem d62_155 : decode jdk_35_method_14_code 155 = .ok (.baload, 1) := by decide +kernel
theorem d62_156 : decode jdk_35_method_14_code 156 = .ok (.bastore, 1) := by decide +kernel
theorem d62_157 : decode jdk_35_method_14_code 157 = .ok (.iload 10, 2) := by decide +kernel
theorem d62_159 : decode jdk_35_method_14_code 159 = .ok (.bipush (-9), 2) := by decide +kernel
theorem d62_161 : decode jdk_35_method_14_code 161 = .ok (.if_icmp .ge 17, 3) := by decide +kernel
theorem d62_164 : decode jdk_35_method_14_code 164 = .ok (.aload_n 3, 1) := by decide +kernel
theorem d62_165 : decode jdk_35_method_14_code 165 = .ok (.iinc 7 (-1), 3) := by decide +kernel
theorem d62_168 : decode jdk_35_method_14_code 168 = .ok (.iload 7, 2) := by decide +kernel
theorem d62_170 : decode jdk_35_method_14_code 170 = .ok (.getstatic 137, 3) := by decide +kernel
theorem d62_173 : decode jdk_35_method_14_code 173 = .ok (.iload 10, 2) := by decide +kernel
theorem d62_175 : decode jdk_35_method_14_code 175 = .ok (.ineg, 1) := by decide +kernel
theorem d62_176 : decode jdk_35_method_14_code 176 = .ok (.baload, 1) := by decide +kernel
theorem d62_177 : decode jdk_35_method_14_code 177 = .ok (.bastore, 1) := by decide +kernel
theorem d62_178 : decode jdk_35_method_14_code 178 = .ok (.iload 8, 2) := by decide +kernel
theorem d62_180 : decode jdk_35_method_14_code 180 = .ok (.ifCond .eq 12, 3) := by decide +kernel
theorem d62_183 : decode jdk_35_method_14_code 183 = .ok (.aload_n 3, 1) := by decide +kernel
theorem d62_184 : decode jdk_35_method_14_code 184 = .ok (.iinc 7 (-1), 3) := by decide +kernel
theorem d62_187 : decode jdk_35_method_14_code 187 = .ok (.iload 7, 2) := by decide +kernel
theorem d62_189 : decode jdk_35_method_14_code 189 = .ok (.bipush 45, 2) := by decide +kernel
theorem d62_191 : decode jdk_35_method_14_code 191 = .ok (.bastore, 1) := by decide +kernel
theorem d62_192 : decode jdk_35_method_14_code 192 = .ok (.iload 7, 2) := by decide +kernel
theorem d62_194 : decode jdk_35_method_14_code 194 = .ok (.ireturn, 1) := by decide +kernel
theorem pd0 : parseMethodDescriptor "()B" = some ⟨[], some .byte⟩ := by decide +kernel
theorem pd1 : parseMethodDescriptor "(IILjava/util/function/BiFunction;)I" = some ⟨[.int, .int, (.object "java/util/function/BiFunction")], some .int⟩ := by decide +kernel
theorem pd2 : parseMethodDescriptor "(II)V" = some ⟨[.int, .int], none⟩ := by decide +kernel
theorem pd3 : parseMethodDescriptor "()Z" = some ⟨[], some .boolean⟩ := by decide +kernel
theorem pd4 : parseMethodDescriptor "([BI)C" = some ⟨[(.array .byte), .int], some .char⟩ := by decide +kernel
theorem pd5 : parseMethodDescriptor "([B[B)Z" = some ⟨[(.array .byte), (.array .byte)], some .boolean⟩ := by decide +kernel
theorem pd6 : parseMethodDescriptor "(II)I" = some ⟨[.int, .int], some .int⟩ := by decide +kernel
theorem pd7 : parseMethodDescriptor "(III)I" = some ⟨[.int, .int, .int], some .int⟩ := by decide +kernel
theorem pd8 : parseMethodDescriptor "(I)I" = some ⟨[.int], some .int⟩ := by decide +kernel
theorem pd9 : parseMethodDescriptor "([BI)[B" = some ⟨[(.array .byte), .int], some (.array .byte)⟩ := by decide +kernel
theorem pd10 : parseMethodDescriptor "([BII)[B" = some ⟨[(.array .byte), .int, .int], some (.array .byte)⟩ := by decide +kernel
theorem pd11 : parseMethodDescriptor "()I" = some ⟨[], some .int⟩ := by decide +kernel
theorem pd12 : parseMethodDescriptor "()[B" = some ⟨[], some (.array .byte)⟩ := by decide +kernel
theorem pd13 : parseMethodDescriptor "(Ljava/lang/AbstractStringBuilder;Ljava/lang/Void;)V" = some ⟨[(.object "java/lang/AbstractStringBuilder"), (.object "java/lang/Void")], none⟩ := by decide +kernel
theorem pd14 : parseMethodDescriptor "(Ljava/lang/StringBuilder;)V" = some ⟨[(.object "java/lang/StringBuilder")], none⟩ := by decide +kernel
theorem pd15 : parseMethodDescriptor "(I)V" = some ⟨[.int], none⟩ := by decide +kernel
theorem pd16 : parseMethodDescriptor "(C)Z" = some ⟨[.char], some .boolean⟩ := by decide +kernel
theorem pd17 : parseMethodDescriptor "(C)Ljava/lang/AbstractStringBuilder;" = some ⟨[.char], some (.object "java/lang/AbstractStringBuilder")⟩ := by decide +kernel
theorem pd18 : parseMethodDescriptor "(IIILjava/util/function/BiFunction;)I" = some ⟨[.int, .int, .int, (.object "java/util/function/BiFunction")], some .int⟩ := by decide +kernel
theorem pd19 : parseMethodDescriptor "(Ljava/lang/String;II)V" = some ⟨[(.object "java/lang/String"), .int, .int], none⟩ := by decide +kernel
theorem pd20 : parseMethodDescriptor "(Ljava/lang/CharSequence;II)Ljava/lang/AbstractStringBuilder;" = some ⟨[(.object "java/lang/CharSequence"), .int, .int], some (.object "java/lang/AbstractStringBuilder")⟩ := by decide +kernel
theorem pd21 : parseMethodDescriptor "(Ljava/lang/String;)V" = some ⟨[(.object "java/lang/String")], none⟩ := by decide +kernel
theorem pd22 : parseMethodDescriptor "([BIB)V" = some ⟨[(.array .byte), .int, .byte], none⟩ := by decide +kernel
theorem pd23 : parseMethodDescriptor "(ILjava/lang/String;)V" = some ⟨[.int, (.object "java/lang/String")], none⟩ := by decide +kernel
theorem pd24 : parseMethodDescriptor "(Ljava/lang/String;)Ljava/lang/AbstractStringBuilder;" = some ⟨[(.object "java/lang/String")], some (.object "java/lang/AbstractStringBuilder")⟩ := by decide +kernel
theorem pd25 : parseMethodDescriptor "(Z)Ljava/lang/AbstractStringBuilder;" = some ⟨[.boolean], some (.object "java/lang/AbstractStringBuilder")⟩ := by decide +kernel
theorem pd26 : parseMethodDescriptor "(I)C" = some ⟨[.int], some .char⟩ := by decide +kernel
theorem pd27 : parseMethodDescriptor "(J)I" = some ⟨[.long], some .int⟩ := by decide +kernel
theorem pd28 : parseMethodDescriptor "(JI[B)I" = some ⟨[.long, .int, (.array .byte)], some .int⟩ := by decide +kernel
theorem pd29 : parseMethodDescriptor "(J)Ljava/lang/AbstractStringBuilder;" = some ⟨[.long], some (.object "java/lang/AbstractStringBuilder")⟩ := by decide +kernel
theorem pd30 : parseMethodDescriptor "(C)Ljava/lang/StringBuilder;" = some ⟨[.char], some (.object "java/lang/StringBuilder")⟩ := by decide +kernel
theorem pd31 : parseMethodDescriptor "()V" = some ⟨[], none⟩ := by decide +kernel
theorem pd32 : parseMethodDescriptor "(Ljava/lang/CharSequence;II)Ljava/lang/StringBuilder;" = some ⟨[(.object "java/lang/CharSequence"), .int, .int], some (.object "java/lang/StringBuilder")⟩ := by decide +kernel
theorem pd33 : parseMethodDescriptor "(Z)Ljava/lang/StringBuilder;" = some ⟨[.boolean], some (.object "java/lang/StringBuilder")⟩ := by decide +kernel
theorem pd34 : parseMethodDescriptor "(Ljava/lang/String;)Ljava/lang/StringBuilder;" = some ⟨[(.object "java/lang/String")], some (.object "java/lang/StringBuilder")⟩ := by decide +kernel
theorem pd35 : parseMethodDescriptor "(J)Ljava/lang/StringBuilder;" = some ⟨[.long], some (.object "java/lang/StringBuilder")⟩ := by decide +kernel
theorem pd36 : parseMethodDescriptor "()Ljava/lang/String;" = some ⟨[], some (.object "java/lang/String")⟩ := by decide +kernel
theorem pd37 : parseMethodDescriptor "(JJ)J" = some ⟨[.long, .long], some .long⟩ := by decide +kernel
theorem pd38 : parseMethodDescriptor "(J)V" = some ⟨[.long], none⟩ := by decide +kernel
theorem pd39 : parseMethodDescriptor "(Ljava/lang/Object;)Z" = some ⟨[(.object "java/lang/Object")], some .boolean⟩ := by decide +kernel
theorem pd40 : parseMethodDescriptor "(Ljava/lang/String;Z)V" = some ⟨[(.object "java/lang/String"), .boolean], none⟩ := by decide +kernel
theorem pd41 : parseMethodDescriptor "(Ljava/lang/String;J)V" = some ⟨[(.object "java/lang/String"), .long], none⟩ := by decide +kernel
theorem pd42 : parseMethodDescriptor "(Ljava/lang/String;Ljava/lang/String;)V" = some ⟨[(.object "java/lang/String"), (.object "java/lang/String")], none⟩ := by decide +kernel
theorem nin1 {x a : Addr} (h : x ≠ a) : x ∉ [a] := by simpa using h
theorem nin2 {x a b : Addr} (h : x ≠ a) (k : x ≠ b) : x ∉ [a, b] := by simpa using ⟨h, k⟩

/-- a String of n chars, each 0 to 255: its byte array at b spells them -/
def Str (Z : State) (h : Heap) (s b : Addr) (k : ClassId) (n : Nat) (f : Nat → Int32) : Prop :=
  Exa Z h s "java/lang/String" ∧ Fld Z h s "java/lang/String" "coder" "B" (.int 0) ∧ Fld Z h s "java/lang/String" "value" "[B" (.ref b) ∧ Arf Z h b k .byte n (fun i => .int (f i))
section StrS
variable {Z : State} {h h' : Heap} {s b a : Addr} {k : ClassId} {n sl : Nat} {f : Nat → Int32} {v : Value} {ws : List Addr}
theorem Str.ext (F : Str Z h s b k n f) (E : Ext h h') : Str Z h' s b k n f := ⟨F.1.ext E, F.2.1.ext E, F.2.2.1.ext E, F.2.2.2.ext E⟩
theorem Str.other (F : Str Z h s b k n f) (W : Wr h h' a sl v) (q : s ≠ a) (q' : b ≠ a) : Str Z h' s b k n f := ⟨F.1.wr W, F.2.1.other W (Or.inl q), F.2.2.1.other W (Or.inl q), F.2.2.2.other W q'⟩
theorem Str.keep (F : Str Z h s b k n f) (K : Keep h h' ws) (q : s ∉ ws) (q' : b ∉ ws) : Str Z h' s b k n f := ⟨F.1.keep K, F.2.1.keep K q, F.2.2.1.keep K q, F.2.2.2.keep K q'⟩
theorem Str.lt (F : Str Z h s b k n f) : s < h.size := F.1.lt
theorem Str.lt' (F : Str Z h s b k n f) : b < h.size := F.2.2.2.lt
end StrS
theorem step_set {α : Type} {g : Nat → α} {f : Nat → α} (x : Nat) (j : Int) (h : 0 ≤ j) : (if x = j.toNat then f j.toNat else if x < j.toNat then f x else g x) = if x < (j + 1).toNat then f x else g x := by
  rcases Nat.lt_trichotomy x j.toNat with q | q | q
  · rw [if_neg (by omega), if_pos q, if_pos (by omega)]
  · rw [if_pos q, if_pos (by omega), q]
  · rw [if_neg (by omega), if_neg (by omega), if_neg (by omega)]
theorem byte_inj {x y : Int32} (h1 : 0 ≤ x.toInt) (h2 : x.toInt ≤ 255) (h3 : 0 ≤ y.toInt) (h4 : y.toInt ≤ 255) (e : x.toInt8.toInt32 = y.toInt8.toInt32) : x = y := by
  have a := c_i2b x; have b := c_i2b y; rw [e] at a; exact of_toInt (by omega)

theorem shr0 (z : Int32) : z >>> ((0 : Int32) &&& 31) = z := of_toInt (by rw [c_ishr z 0 0 (by decide)]; simp)
theorem chr_of (b : Int32) : ((b &&& 255).toUInt32.toUInt16.toUInt32.toInt32).toInt = b.toInt % 256 := by
  have h1 := c_mask b 255 8 (by decide) (by decide)
  have h2 := c_i2c (b &&& 255)
  omega
theorem nr_char {r : Int32} (h1 : 0 ≤ r.toInt) (h2 : r.toInt < 65536) : narrow .char (.int r) = .int r := congrArg Value.int (of_toInt (by have := c_i2c r; omega))
theorem nr_i2c (x : Int32) : narrow .char (.int (x.toUInt32.toUInt16.toUInt32.toInt32)) = .int (x.toUInt32.toUInt16.toUInt32.toInt32) := nr_char (c_i2c x).2.1 (c_i2c x).2.2
theorem chr_byte {x : Int32} (h1 : 0 ≤ x.toInt) (h2 : x.toInt ≤ 255) : (x.toInt8.toInt32).toInt % 256 = x.toInt := by have := c_i2b x; omega
theorem s_isRef {s : State} {args : Array Value} {CC n d : String} (h0 : (Cond.initializedFor CC n d).before args s = true) (h1 : (Cond.isRef (Term.static CC n d)).before args s = true) : ∃ v : Value, Sta s s.heap CC n d v ∧ v.isRef = true := by
  obtain ⟨x, ev, hr⟩ := Cond.isRef_spec h1
  exact ⟨x, Sta.start ev (Or.inl h0), hr⟩

/-- the builder o over the byte array b of cap bytes: it spells L -/
def Bld (Z : State) (h : Heap) (o b : Addr) (k : ClassId) (cap : Nat) (L : List Int32) : Prop :=
  Exa Z h o "java/lang/StringBuilder" ∧ Exa Z h b "[B" ∧ Fld Z h o "java/lang/AbstractStringBuilder" "value" "[B" (.ref b) ∧ Fld Z h o "java/lang/AbstractStringBuilder" "coder" "B" (.int 0) ∧ (∃ z : Int32, z.toInt = L.length ∧ Fld Z h o "java/lang/AbstractStringBuilder" "count" "I" (.int z)) ∧ (∃ f : Nat → Int32, Arf Z h b k .byte cap (fun i => .int (f i)) ∧ ∀ i, i < L.length → f i = L.getD i 0) ∧ L.length ≤ cap
section BldS
variable {Z : State} {h h' : Heap} {o b a : Addr} {k : ClassId} {cap sl : Nat} {L : List Int32} {v : Value} {ws : List Addr}
theorem Bld.ext (F : Bld Z h o b k cap L) (E : Ext h h') : Bld Z h' o b k cap L := by
  obtain ⟨a1, a2, a3, a4, ⟨z, a5, a6⟩, ⟨f, a7, a8⟩, a9⟩ := F
  exact ⟨a1.ext E, a2.ext E, a3.ext E, a4.ext E, ⟨z, a5, a6.ext E⟩, ⟨f, a7.ext E, a8⟩, a9⟩
theorem Bld.other (F : Bld Z h o b k cap L) (W : Wr h h' a sl v) (q : o ≠ a) (q' : b ≠ a) : Bld Z h' o b k cap L := by
  obtain ⟨a1, a2, a3, a4, ⟨z, a5, a6⟩, ⟨f, a7, a8⟩, a9⟩ := F
  exact ⟨a1.wr W, a2.wr W, a3.other W (Or.inl q), a4.other W (Or.inl q), ⟨z, a5, a6.other W (Or.inl q)⟩, ⟨f, a7.other W q', a8⟩, a9⟩
theorem Bld.keep (F : Bld Z h o b k cap L) (K : Keep h h' ws) (q : o ∉ ws) (q' : b ∉ ws) : Bld Z h' o b k cap L := by
  obtain ⟨a1, a2, a3, a4, ⟨z, a5, a6⟩, ⟨f, a7, a8⟩, a9⟩ := F
  exact ⟨a1.keep K, a2.keep K, a3.keep K q, a4.keep K q, ⟨z, a5, a6.keep K q⟩, ⟨f, a7.keep K q', a8⟩, a9⟩
theorem Bld.lt (F : Bld Z h o b k cap L) : o < h.size := F.1.lt
theorem Bld.lt' (F : Bld Z h o b k cap L) : b < h.size := F.2.1.lt
theorem Bld.ne (F : Bld Z h o b k cap L) : b ≠ o := ne_exa F.2.1 F.1 (by decide)
theorem Arf.ints {g : Nat → Value} (B : Arf Z h b k .byte cap g) : ∃ F : Nat → Int32, ∀ i, i < cap → g i = .int (F i) := ⟨fun i => match g i with | .int x => x | _ => 0, fun i hi => by
  have q := B.fits hi
  cases hg : g i <;> simp [hg, Jvm.fits] at q ⊢⟩
theorem Bld.mkG {z : Int32} {g : Nat → Value} {D : List Int32} (a1 : Exa Z h o "java/lang/StringBuilder") (a2 : Exa Z h b "[B") (a3 : Fld Z h o "java/lang/AbstractStringBuilder" "value" "[B" (.ref b)) (a4 : Fld Z h o "java/lang/AbstractStringBuilder" "coder" "B" (.int 0)) (hz : z.toInt = (L.length + D.length : Nat)) (a6 : Fld Z h o "java/lang/AbstractStringBuilder" "count" "I" (.int z)) (B : Arf Z h b k .byte cap g) (h1 : ∀ i, i < L.length → g i = .int (L.getD i 0)) (h2 : ∀ i, i < D.length → g (L.length + i) = .int (D.getD i 0)) (hc : L.length + D.length ≤ cap) : Bld Z h o b k cap (L ++ D) := by
  obtain ⟨F, hF⟩ := Arf.ints B
  refine ⟨a1, a2, a3, a4, ⟨z, by rw [List.length_append]; exact hz, a6⟩, ⟨F, B.congr hF, fun i hi => ?_⟩, by rw [List.length_append]; exact hc⟩
  rw [List.length_append] at hi
  rcases Nat.lt_or_ge i L.length with q | q
  · have e := hF i (by omega); rw [h1 i q] at e; injection e with e; rw [← e]; simp [List.getD_eq_getElem?_getD, List.getElem?_append_left q]
  · have e := hF i (by omega); have e2 := h2 (i - L.length) (by omega); rw [show L.length + (i - L.length) = i by omega] at e2; rw [e2] at e; injection e with e; rw [← e]; simp [List.getD_eq_getElem?_getD, List.getElem?_append_right q]
end BldS
theorem in_mem {u b o : Addr} {n : Nat} (h : u = b ∨ n ≤ u) : u ∈ [o, b] ∨ n ≤ u := h.elim (fun e => Or.inl (by rw [e]; simp)) Or.inr
theorem in_step {u u' b : Addr} {n n' : Nat} (h : u = b ∨ n ≤ u) (h' : u' = u ∨ n' ≤ u') (q : n ≤ n') : u' = b ∨ n ≤ u' := by
  rcases h' with rfl | h'
  · exact h
  · exact Or.inr (Nat.le_trans q h')
theorem ne_new {u b z : Addr} {n : Nat} (h : u = b ∨ n ≤ u) (q : z ≠ b) (hl : z < n) : z ≠ u := by
  rcases h with rfl | h
  · exact q
  · exact Nat.ne_of_lt (Nat.lt_of_lt_of_le hl h)
theorem nar_b {x : Int32} (h1 : 0 ≤ x.toInt) (h2 : x.toInt ≤ 127) : nar .byte x = x := by
  have := c_i2b x; exact of_toInt (by simp only [nar]; omega)
theorem i2b_id {x : Int32} (h1 : 0 ≤ x.toInt) (h2 : x.toInt ≤ 127) : x.toInt8.toInt32 = x := of_toInt (by have := c_i2b x; omega)
theorem shl0 (z : Int32) : z <<< ((0 : Int32) &&& 31) = z := of_toInt (by have := c_ishl z 0 0 (by decide); have := rgI z; have := rgI (z <<< ((0 : Int32) &&& 31)); omega)

def sgn (x : Int64) : Nat := if x.toInt < 0 then 1 else 0
theorem sgn_le (x : Int64) : sgn x ≤ 1 := by unfold sgn; split <;> omega
theorem sgn_neg {x : Int64} (h : x.toInt < 0) : sgn x = 1 := if_pos h
theorem sgn_pos {x : Int64} (h : 0 ≤ x.toInt) : sgn x = 0 := if_neg (by omega)
def dig (x : Int32) : Prop := 48 ≤ x.toInt ∧ x.toInt ≤ 57
theorem nar_dig {x : Int32} (h : dig x) : nar .byte x = x := nar_b (by have := h.1; omega) (by have := h.2; omega)
def upd (F : Nat → Int32) (P : Nat) (v : Int32) (i : Nat) : Int32 := if i = P then v else F i
theorem upd_ne {F : Nat → Int32} {P i : Nat} {v : Int32} (h : i ≠ P) : upd F P v i = F i := if_neg h
theorem upd_eq {F : Nat → Int32} {P : Nat} {v : Int32} : upd F P v P = v := if_pos rfl
theorem upd_arf {Z : State} {h : Heap} {b : Addr} {k : ClassId} {cap P : Nat} {F : Nat → Int32} {v : Int32} (B : Arf Z h b k .byte cap (fun x => if x = P then .int v else (fun i => .int (F i)) x)) : Arf Z h b k .byte cap (fun i => .int (upd F P v i)) := B.congr fun i _ => by
  unfold upd; by_cases q : i = P <;> simp [q]
theorem digD {F : Nat → Int32} {P I : Nat} {v : Int32} (hD : P + 1 < I → dig (F (I - 1))) (hv : dig v) (h : P + 1 ≤ I) : dig (upd F P v (I - 1)) := by
  by_cases q : I - 1 = P
  · rw [q, upd_eq]; exact hv
  · rw [upd_ne q]; exact hD (by omega)
theorem pw3 {a n : Nat} (h : a < 10 ^ n) (h2 : 100 ≤ a) : 3 ≤ n ∧ a / 100 < 10 ^ (n - 2) := by
  have h3 : 3 ≤ n := by
    rcases Nat.lt_or_ge n 3 with q | q
    · have : 10 ^ n ≤ 10 ^ 2 := Nat.pow_le_pow_right (by decide) (by omega)
      omega
    · exact q
  refine ⟨h3, Nat.div_lt_of_lt_mul ?_⟩
  have : 10 ^ n = 100 * 10 ^ (n - 2) := by rw [show n = (n - 2) + 2 by omega, Nat.pow_add]; simp; omega
  omega
theorem pw2 {a n : Nat} (h : a < 10 ^ n) (h2 : 10 ≤ a) : 2 ≤ n := by
  rcases Nat.lt_or_ge n 2 with q | q
  · have : 10 ^ n ≤ 10 ^ 1 := Nat.pow_le_pow_right (by decide) (by omega)
    omega
  · exact q
theorem lcmp_gt {x y : Int64} {z : Int32} (q : (if x > y then (1 : Int32) else if x = y then 0 else -1) = z) (c : 0 < z.toInt) : y.toInt < x.toInt := by
  have h := lcmp_toInt q; rcases Int.lt_trichotomy x.toInt y.toInt with a | a | a
  · have := h.1 a; omega
  · have := h.2.1 a; omega
  · exact a
theorem lcmp_le {x y : Int64} {z : Int32} (q : (if x > y then (1 : Int32) else if x = y then 0 else -1) = z) (c : z.toInt ≤ 0) : x.toInt ≤ y.toInt := by
  have h := lcmp_toInt q; rcases Int.lt_trichotomy x.toInt y.toInt with a | a | a
  · omega
  · omega
  · have := h.2.2 a; omega
theorem lrem_dig {y : Int64} {r : Int32} (hy : y.toInt < 0) (q_r : ((((y / (100 : Int64)) * (100 : Int64)) - y).toInt32) = r) : r.toInt = ((y.toInt.natAbs % 100 : Nat) : Int) ∧ (y / (100 : Int64)).toInt.natAbs = y.toInt.natAbs / 100 ∧ (y / (100 : Int64)).toInt ≤ 0 := by
  have hq := (c_ldiv y (100 : Int64) 100 rfl (by decide)).2 hy
  have m1 := c_lmul (y / (100 : Int64)) (100 : Int64); have m2 := rgL ((y / (100 : Int64)) * (100 : Int64))
  rw [show (100 : Int64).toInt = 100 from rfl, hq] at m1
  have m3 := c_lsub ((y / (100 : Int64)) * (100 : Int64)) y; have m4 := rgL (((y / (100 : Int64)) * (100 : Int64)) - y); have m5 := c_l2i (((y / (100 : Int64)) * (100 : Int64)) - y); have m6 := rgL y; have m7 := rgI (((y / (100 : Int64)) * (100 : Int64)) - y).toInt32
  refine ⟨by rw [← q_r]; omega, by rw [hq]; omega, by rw [hq]; omega⟩
theorem irem_dig {w r : Int32} (hy : w.toInt < 0) (q_r : (((w / (100 : Int32)) * (100 : Int32)) - w) = r) : r.toInt = ((w.toInt.natAbs % 100 : Nat) : Int) ∧ (w / (100 : Int32)).toInt.natAbs = w.toInt.natAbs / 100 ∧ (w / (100 : Int32)).toInt ≤ 0 := by
  have hq := (c_idiv w (100 : Int32) 100 rfl (by decide)).2 hy
  have m1 := c_imul (w / (100 : Int32)) (100 : Int32); have m2 := rgI ((w / (100 : Int32)) * (100 : Int32))
  rw [show (100 : Int32).toInt = 100 from rfl, hq] at m1
  have m3 := c_isub ((w / (100 : Int32)) * (100 : Int32)) w; have m4 := rgI (((w / (100 : Int32)) * (100 : Int32)) - w); have m6 := rgI w
  refine ⟨by rw [← q_r]; omega, by rw [hq]; omega, by rw [hq]; omega⟩
theorem posm {q : Int32} {m : Nat} (h : q.toInt = (m : Int)) (hm : 1 ≤ m) : (q + (-1 : Int32)).toInt = ((m - 1 : Nat) : Int) := by
  have e : (-1 : Int32).toInt = -1 := rfl
  have := rgI q
  rw [iadd_toInt (by omega) (by omega), e]; omega
theorem posn {q : Int32} (h : 1 ≤ q.toInt.toNat) : q.toInt = (q.toInt.toNat : Int) := by omega
theorem neg_abs {w : Int32} (h : w.toInt ≤ 0) (h2 : -100 < w.toInt) : (-w).toInt = (w.toInt.natAbs : Int) := by have := c_ineg w; have := rgI (-w); have := rgI w; omega
theorem l2i_in {y : Int64} {w : Int32} (q : y.toInt32 = w) (h : y.toInt ≤ 0) (h2 : -2147483648 < y.toInt) : w.toInt = y.toInt := by have m5 := c_l2i y; have m7 := rgI y.toInt32; rw [q] at m5 m7; omega
theorem g1 {s P : Nat} (h : s + 1 ≤ P) : 1 ≤ P := by omega
theorem g99 {a : Nat} (h : a ≤ 99) : a < 100 := by omega
theorem glt {s P I cap n : Nat} (h : s + 1 ≤ P) (h2 : P ≤ I) (h3 : I ≤ cap) (hn : 1 ≤ n) : P - n < cap := by omega
theorem gneq {j s g P n : Nat} (hj : j < s) (h : s + g + n ≤ P) : j ≠ P - n := by omega
theorem gadd {s P n : Nat} (h : n ≤ P - s) (h1 : 1 ≤ n) : s + n ≤ P := by omega
theorem gsg {s g P n : Nat} (h : s + g + n ≤ P) (e : g = 1) : s + 0 + (n + 1) ≤ P := by omega
theorem gd1 {s P I : Nat} (h : s + 1 ≤ P) (q : P - 1 + 1 < I) : P < I := by omega
theorem gd2 {s P I : Nat} (h : s + 1 ≤ P) (h2 : P ≤ I) : P - 1 + 1 ≤ I := by omega
theorem gI {t P I n : Nat} (h : t + n ≤ P) (h2 : P ≤ I) (hn : 2 ≤ n) : I - 1 ≠ P - n := by omega
theorem gp {t P n m : Nat} (h : t + m ≤ P) (e : n < m) : 1 ≤ P - n := by omega
theorem gdec {a : Nat} (h : 100 ≤ a) : a / 100 < a := by omega
theorem gb1 {t P : Nat} (h : t + 3 ≤ P) : t + 1 ≤ P - 2 := by omega
theorem gsc {a b : Nat} : a - 2 - b = a - b - 2 := by omega
theorem ab99 {w : Int32} (h : w.toInt ≤ 0) (c : (-100 : Int32).toInt < w.toInt) : w.toInt.natAbs ≤ 99 := by have e : (-100 : Int32).toInt = -100 := rfl; omega
theorem ab100 {w : Int32} (c : w.toInt ≤ (-100 : Int32).toInt) : 100 ≤ w.toInt.natAbs ∧ w.toInt < 0 := by have e : (-100 : Int32).toInt = -100 := rfl; omega
theorem ab10 {w : Int32} (c : w.toInt < (-9 : Int32).toInt) : 10 ≤ w.toInt.natAbs := by have e : (-9 : Int32).toInt = -9 := rfl; omega
theorem abM {y : Int64} (c : y.toInt ≤ -2147483648) : 100 ≤ y.toInt.natAbs ∧ y.toInt < 0 := by omega
theorem gi1 {z : Int32} {I s k : Nat} (hI : z.toInt = I) (e : I = s + k) (hk : 1 ≤ k) : s + 1 ≤ z.toInt.toNat := by omega
theorem gi2 {z : Int32} {I : Nat} (hI : z.toInt = I) : z.toInt.toNat ≤ I := by omega
theorem gi3 {z : Int32} {I s k : Nat} (hI : z.toInt = I) (e : I = s + k) : z.toInt.toNat - s = k := by omega
theorem gi4 {z : Int32} {I : Nat} (hI : z.toInt = I) : ¬ z.toInt.toNat < I := by omega
theorem lcmp_ge {x y : Int64} {z : Int32} (q : (if x > y then (1 : Int32) else if x = y then 0 else -1) = z) (c : 0 ≤ z.toInt) : y.toInt ≤ x.toInt := by have := lcmp_toInt q; omega
theorem lcmp_lt {x y : Int64} {z : Int32} (q : (if x > y then (1 : Int32) else if x = y then 0 else -1) = z) (c : z.toInt < 0) : x.toInt < y.toInt := by have := lcmp_toInt q; omega
theorem abs_neg {x : Int64} (h : x.toInt < 0) : x.toInt = -(x.toInt.natAbs : Int) := by omega
theorem neg_pos {x : Int64} (h : 0 ≤ x.toInt) : (-x).toInt = -(x.toInt.natAbs : Int) := by have := c_lneg x; have := rgL (-x); have := rgL x; omega
theorem neg_np {x : Int64} (h : 0 ≤ x.toInt) : (-x).toInt ≤ 0 := by rw [neg_pos h]; omega
theorem rng_getD (n : Nat) (G : Nat → Int32) (i : Nat) (hi : i < n) : ((List.range n).map G).getD i 0 = G i := by simp [List.getD_eq_getElem?_getD, hi]

theorem pn_26 : plainFor (⟨"java/lang/String", "isLatin1", "()Z"⟩ : MethodName) = true := plainFor_of_name (by first | (simp [plainName, overriddenIn]; done) | decide +kernel)
set_option maxRecDepth 65536 in
set_option maxHeartbeats 40000000 in
theorem str_lat {Z : State} {a0 : Array Value} (hw : HW a0 Z) (s b : Addr) (k : ClassId) (n : Nat) (z cs : Int32) (f : Nat → Int32) (h0 : Heap) (n0 : Nat) (sf0 : List Addr) (SS : Str Z h0 s b k n f) (hz : z.toInt = n) (S_CS : Sta Z h0 "java/lang/String" "COMPACT_STRINGS" "Z" (.int cs)) (hcs : cs ≠ 0) :
    MetW Z consts_1 sf0 (⟨"java/lang/String", "isLatin1", "()Z"⟩ : MethodName) jdk_42_method_154_code 1 (some .boolean) [] ({ frames := 0, cells := 0, slots := 0, locals := 0 } : Room) #[(.ref s)] h0 n0 (fun v h sf => v = some (.int 1) ∧ h = h0) := by
  refine k_body (hEW hw) (f := (fun m => mkF m 0 #[.val (.ref s)] [])) pn_26 (fun m => by first | (simp [entryFrame, mkF, argsToLocals, Value.category, maxLocals]; done) | rfl) ?_
  intro Γ T G X
  obtain ⟨SE, SC, SV, SA⟩ := id SS
  show Go Γ n0 _ T (mkF Γ.m 0 #[.val (.ref s)] [])
  refine k_getS G X (host := "") (Or.inl (w132 hw)) Via.refl S_CS d26_0 (pc' := 3) rfl (fun T X => ?_)
  refine k_if_eq G X d26_3 (pc' := 17) rfl (by decide) (pc'' := 6) rfl (fun c3 => (absurd c3 hcs)) (fun c3 => ?_)
  refine k_aloadN G X d26_6 (pc' := 7) rfl rfl rfl ?_
  refine k_getF G X (host := "") (Or.inl (w133 hw)) Via.refl SC d26_7 (pc' := 10) rfl (fun T X => ?_)
  refine k_if_ne G X d26_10 (pc' := 17) rfl (by decide) (pc'' := 13) rfl (fun c10 => (absurd c10 (by decide))) (fun c10 => ?_)
  refine k_iconst G X d26_13 (pc' := 14) rfl (z := (1 : Int32)) (by decide) ?_
  refine k_goto G X d26_14 (by decide) (pc' := 18) rfl ?_
  refine k_retb G X d26_18 (t := .boolean) rfl (by simp) rfl ?_ (by decide) (by decide)
  exact ⟨rfl, rfl⟩
theorem pn_24 : plainFor (⟨"java/lang/String", "coder", "()B"⟩ : MethodName) = true := plainFor_of_name (by first | (simp [plainName, overriddenIn]; done) | decide +kernel)
set_option maxRecDepth 65536 in
set_option maxHeartbeats 40000000 in
theorem str_cod1 {Z : State} {a0 : Array Value} (hw : HW a0 Z) (s b : Addr) (k : ClassId) (n : Nat) (z cs : Int32) (f : Nat → Int32) (h0 : Heap) (n0 : Nat) (sf0 : List Addr) (SS : Str Z h0 s b k n f) (hz : z.toInt = n) (S_CS : Sta Z h0 "java/lang/String" "COMPACT_STRINGS" "Z" (.int cs)) (hcs : cs ≠ 0) :
    MetW Z consts_1 sf0 (⟨"java/lang/String", "coder", "()B"⟩ : MethodName) jdk_42_method_152_code 1 (some .byte) [] ({ frames := 0, cells := 0, slots := 0, locals := 0 } : Room) #[(.ref s)] h0 n0 (fun v h sf => v = some (.int 0) ∧ h = h0) := by
  refine k_body (hEW hw) (f := (fun m => mkF m 0 #[.val (.ref s)] [])) pn_24 (fun m => by first | (simp [entryFrame, mkF, argsToLocals, Value.category, maxLocals]; done) | rfl) ?_
  intro Γ T G X
  obtain ⟨SE, SC, SV, SA⟩ := id SS
  show Go Γ n0 _ T (mkF Γ.m 0 #[.val (.ref s)] [])
  refine k_getS G X (host := "") (Or.inl (w132 hw)) Via.refl S_CS d24_0 (pc' := 3) rfl (fun T X => ?_)
  refine k_if_eq G X d24_3 (pc' := 13) rfl (by decide) (pc'' := 6) rfl (fun c3 => (absurd c3 hcs)) (fun c3 => ?_)
  refine k_aloadN G X d24_6 (pc' := 7) rfl rfl rfl ?_
  refine k_getF G X (host := "") (Or.inl (w133 hw)) Via.refl SC d24_7 (pc' := 10) rfl (fun T X => ?_)
  refine k_goto G X d24_10 (by decide) (pc' := 14) rfl ?_
  refine k_retb G X d24_14 (t := .byte) rfl (by simp) rfl ?_ (by decide) (by decide)
  exact ⟨rfl, rfl⟩
theorem pn_23 : plainFor (⟨"java/lang/String", "length", "()I"⟩ : MethodName) = true := plainFor_of_name (by first | (simp [plainName, overriddenIn]; done) | decide +kernel)
set_option maxRecDepth 65536 in
set_option maxHeartbeats 40000000 in
theorem str_len {Z : State} {a0 : Array Value} (hw : HW a0 Z) (s b : Addr) (k : ClassId) (n : Nat) (z cs : Int32) (f : Nat → Int32) (h0 : Heap) (n0 : Nat) (sf0 : List Addr) (SS : Str Z h0 s b k n f) (hz : z.toInt = n) (S_CS : Sta Z h0 "java/lang/String" "COMPACT_STRINGS" "Z" (.int cs)) (hcs : cs ≠ 0) :
    MetW Z consts_1 sf0 (⟨"java/lang/String", "length", "()I"⟩ : MethodName) jdk_42_method_54_code 1 (some .int) [] ({ frames := 1, cells := 0, slots := 0, locals := 13 } : Room) #[(.ref s)] h0 n0 (fun v h sf => v = some (.int z) ∧ h = h0) := by
  refine k_body (hEW hw) (f := (fun m => mkF m 0 #[.val (.ref s)] [])) pn_23 (fun m => by first | (simp [entryFrame, mkF, argsToLocals, Value.category, maxLocals]; done) | rfl) ?_
  intro Γ T G X
  obtain ⟨SE, SC, SV, SA⟩ := id SS
  show Go Γ n0 _ T (mkF Γ.m 0 #[.val (.ref s)] [])
  refine k_aloadN G X d23_0 (pc' := 1) rfl rfl rfl ?_
  refine k_getF G X (host := "") (Or.inl (w126 hw)) Via.refl SV d23_1 (pc' := 4) rfl (fun T X => ?_)
  refine k_alen G X (z := z) SA hz d23_4 (pc' := 5) rfl ?_
  refine k_aloadN G X d23_5 (pc' := 6) rfl rfl rfl ?_
  refine k_callV G X (argsL := []) (rest := [(.int z)]) rfl SE (w127 hw) (w128 hw) (nf_sel (w130 hw)) (w130 hw) (w129 hw) (w29 hw) (w131 hw) (by decide) (str_cod1 hw s b k n z cs f h0 n0 _ SS hz S_CS hcs) d23_6 pd0 rfl (pc' := 9) rfl rfl (wd := 1) rfl (by decide) (by decide) (by decide) (by decide) (fun T h6 v sf6 X q => ?_)
  replace X := W.drop X
  obtain ⟨rfl, e6⟩ := q
  replace X := X.eq e6
  show Go Γ n0 _ T (mkF Γ.m 9 #[.val (.ref s)] [(.int (0 : Int32)), (.int z)])
  refine k_ishr G X d23_9 (pc' := 10) rfl rfl ?_
  rw [shr0 z]
  refine k_reti G X d23_10 rfl ?_ (by decide) (by decide)
  exact ⟨rfl, rfl⟩
theorem pn_21 : plainFor (⟨"jdk/internal/util/Preconditions", "checkIndex", "(IILjava/util/function/BiFunction;)I"⟩ : MethodName) = true := plainFor_of_name (by first | (simp [plainName, overriddenIn]; done) | decide +kernel)
set_option maxRecDepth 65536 in
set_option maxHeartbeats 40000000 in
theorem pre_idx {Z : State} {a0 : Array Value} (hw : HW a0 Z) (j z : Int32) (fm : Value) (h0 : Heap) (n0 : Nat) (sf0 : List Addr) (hj : 0 ≤ j.toInt) (hjz : j.toInt < z.toInt) (hfm : fm.isRef = true) :
    MetW Z consts_1 sf0 (⟨"jdk/internal/util/Preconditions", "checkIndex", "(IILjava/util/function/BiFunction;)I"⟩ : MethodName) jdk_41_method_11_code 3 (some .int) [] ({ frames := 0, cells := 0, slots := 0, locals := 0 } : Room) #[(.int j), (.int z), fm] h0 n0 (fun v h sf => v = some (.int j) ∧ h = h0) := by
  refine k_body (hEW hw) (f := (fun m => mkF m 0 #[.val (.int j), .val (.int z), .val fm] [])) pn_21 (fun m => by rcases ref_cases hfm with rfl | ⟨a, rfl⟩ <;> first | (simp [entryFrame, mkF, argsToLocals, Value.category, maxLocals]; done) | rfl) ?_
  intro Γ T G X
  show Go Γ n0 _ T (mkF Γ.m 0 #[.val (.int j), .val (.int z), .val fm] [])
  refine k_iloadN G X d21_0 (pc' := 1) rfl rfl ?_
  refine k_if_lt G X d21_1 (pc' := 9) rfl (by decide) (pc'' := 4) rfl (fun c1 => (absurd c1 (by omega))) (fun c1 => ?_)
  refine k_iloadN G X d21_4 (pc' := 5) rfl rfl ?_
  refine k_iloadN G X d21_5 (pc' := 6) rfl rfl ?_
  refine k_icmp_lt G X d21_6 (pc' := 16) rfl (by decide) (pc'' := 9) rfl (fun c6 => ?_) (fun c6 => (absurd c6 (by omega)))
  refine k_iloadN G X d21_16 (pc' := 17) rfl rfl ?_
  refine k_reti G X d21_17 rfl ?_ (by decide) (by decide)
  exact ⟨rfl, rfl⟩
theorem pn_20 : plainFor (⟨"java/lang/String", "checkIndex", "(II)V"⟩ : MethodName) = true := plainFor_of_name (by first | (simp [plainName, overriddenIn]; done) | decide +kernel)
set_option maxRecDepth 65536 in
set_option maxHeartbeats 40000000 in
theorem str_chk {Z : State} {a0 : Array Value} (hw : HW a0 Z) (j z : Int32) (fm : Value) (h0 : Heap) (n0 : Nat) (sf0 : List Addr) (hj : 0 ≤ j.toInt) (hjz : j.toInt < z.toInt) (S_FM : Sta Z h0 "jdk/internal/util/Preconditions" "SIOOBE_FORMATTER" "Ljava/util/function/BiFunction;" fm) (hfm : fm.isRef = true) :
    MetW Z consts_1 sf0 (⟨"java/lang/String", "checkIndex", "(II)V"⟩ : MethodName) jdk_42_method_155_code 2 none [] ({ frames := 1, cells := 0, slots := 0, locals := 14 } : Room) #[(.int j), (.int z)] h0 n0 (fun v h sf => v = none ∧ h = h0) := by
  refine k_body (hEW hw) (f := (fun m => mkF m 0 #[.val (.int j), .val (.int z)] [])) pn_20 (fun m => by first | (simp [entryFrame, mkF, argsToLocals, Value.category, maxLocals]; done) | rfl) ?_
  intro Γ T G X
  show Go Γ n0 _ T (mkF Γ.m 0 #[.val (.int j), .val (.int z)] [])
  refine k_iloadN G X d20_0 (pc' := 1) rfl rfl ?_
  refine k_iloadN G X d20_1 (pc' := 2) rfl rfl ?_
  refine k_getS G X (host := "") (Or.inl (w112 hw)) Via.refl S_FM d20_2 (pc' := 5) rfl (fun T X => ?_)
  refine k_callS G X (argsL := [(.int j), (.int z), fm]) (rest := []) rfl (w114 hw) (w115 hw) (w113 hw) (w116 hw) (by decide) (pre_idx hw j z fm h0 n0 _ hj hjz hfm) d20_5 pd1 rfl (pc' := 8) rfl rfl (wd := 0) rfl (by decide) (by decide) (by decide) (by decide) (fun T h5 v sf5 X q => ?_)
  replace X := W.drop X
  obtain ⟨rfl, e5⟩ := q
  replace X := X.eq e5
  show Go Γ n0 _ T (mkF Γ.m 8 #[.val (.int j), .val (.int z)] [(.int j)])
  refine k_pop G X d20_8 (pc' := 9) rfl rfl ?_
  refine k_retv G X d20_9 rfl ?_ (by decide) (by decide)
  exact ⟨rfl, rfl⟩
theorem pn_27 : plainFor (⟨"java/lang/StringLatin1", "charAt", "([BI)C"⟩ : MethodName) = true := plainFor_of_name (by first | (simp [plainName, overriddenIn]; done) | decide +kernel)
set_option maxRecDepth 65536 in
set_option maxHeartbeats 40000000 in
theorem str_lch {Z : State} {a0 : Array Value} (hw : HW a0 Z) (b : Addr) (k : ClassId) (n i : Nat) (z j : Int32) (f : Nat → Int32) (fm : Value) (h0 : Heap) (n0 : Nat) (sf0 : List Addr) (SA : Arf Z h0 b k .byte n (fun i => .int (f i))) (hz : z.toInt = n) (hji : j.toInt = i) (hin : i < n) (S_FM : Sta Z h0 "jdk/internal/util/Preconditions" "SIOOBE_FORMATTER" "Ljava/util/function/BiFunction;" fm) (hfm : fm.isRef = true) :
    MetW Z consts_1 sf0 (⟨"java/lang/StringLatin1", "charAt", "([BI)C"⟩ : MethodName) jdk_43_method_2_code 2 (some .char) [] ({ frames := 2, cells := 0, slots := 0, locals := 27 } : Room) #[(.ref b), (.int j)] h0 n0 (fun v h sf => ∃ r : Int32, v = some (.int r) ∧ r.toInt = (f i).toInt % 256 ∧ h = h0) := by
  refine k_body (hEW hw) (f := (fun m => mkF m 0 #[.val (.ref b), .val (.int j)] [])) pn_27 (fun m => by first | (simp [entryFrame, mkF, argsToLocals, Value.category, maxLocals]; done) | rfl) ?_
  intro Γ T G X
  have hj : 0 ≤ j.toInt := by omega
  have hjz : j.toInt < z.toInt := by omega
  show Go Γ n0 _ T (mkF Γ.m 0 #[.val (.ref b), .val (.int j)] [])
  refine k_iloadN G X d27_0 (pc' := 1) rfl rfl ?_
  refine k_aloadN G X d27_1 (pc' := 2) rfl rfl rfl ?_
  refine k_alen G X (z := z) SA hz d27_2 (pc' := 3) rfl ?_
  refine k_callS G X (argsL := [(.int j), (.int z)]) (rest := []) rfl (w147 hw) (w110 hw) (w29 hw) (w111 hw) (by decide) (str_chk hw j z fm h0 n0 _ hj hjz S_FM hfm) d27_3 pd2 rfl (pc' := 6) rfl rfl (wd := 0) rfl (by decide) (by decide) (by decide) (by decide) (fun T h3 v sf3 X q => ?_)
  replace X := W.drop X
  obtain ⟨rfl, e3⟩ := q
  replace X := X.eq e3
  show Go Γ n0 _ T (mkF Γ.m 6 #[.val (.ref b), .val (.int j)] [])
  refine k_aloadN G X d27_6 (pc' := 7) rfl rfl rfl ?_
  refine k_iloadN G X d27_7 (pc' := 8) rfl rfl ?_
  refine k_baload G X (i := i) (v := (.int (f i))) SA hji hin rfl d27_8 (pc' := 9) rfl ?_
  refine k_sipush G X d27_9 (pc' := 12) rfl (z := (255 : Int32)) (by decide) ?_
  refine k_iand G X d27_12 (pc' := 13) rfl rfl ?_
  refine k_i2c G X d27_13 (pc' := 14) rfl rfl ?_
  refine k_retb G X d27_14 (t := .char) rfl (by simp) (nr_i2c _) ?_ (by decide) (by decide)
  exact ⟨_, rfl, chr_of _, rfl⟩
theorem pn_25 : plainFor (⟨"java/lang/String", "charAt", "(I)C"⟩ : MethodName) = true := plainFor_of_name (by first | (simp [plainName, overriddenIn]; done) | decide +kernel)
set_option maxRecDepth 65536 in
set_option maxHeartbeats 40000000 in
theorem str_at {Z : State} {a0 : Array Value} (hw : HW a0 Z) (s b : Addr) (k : ClassId) (n i : Nat) (z cs j : Int32) (f : Nat → Int32) (fm : Value) (h0 : Heap) (n0 : Nat) (sf0 : List Addr) (SS : Str Z h0 s b k n f) (hz : z.toInt = n) (S_CS : Sta Z h0 "java/lang/String" "COMPACT_STRINGS" "Z" (.int cs)) (hcs : cs ≠ 0) (hji : j.toInt = i) (hin : i < n) (S_FM : Sta Z h0 "jdk/internal/util/Preconditions" "SIOOBE_FORMATTER" "Ljava/util/function/BiFunction;" fm) (hfm : fm.isRef = true) :
    MetW Z consts_1 sf0 (⟨"java/lang/String", "charAt", "(I)C"⟩ : MethodName) jdk_42_method_56_code 2 (some .char) [] ({ frames := 3, cells := 0, slots := 0, locals := 40 } : Room) #[(.ref s), (.int j)] h0 n0 (fun v h sf => ∃ r : Int32, v = some (.int r) ∧ r.toInt = (f i).toInt % 256 ∧ h = h0) := by
  refine k_body (hEW hw) (f := (fun m => mkF m 0 #[.val (.ref s), .val (.int j)] [])) pn_25 (fun m => by first | (simp [entryFrame, mkF, argsToLocals, Value.category, maxLocals]; done) | rfl) ?_
  intro Γ T G X
  obtain ⟨SE, SC, SV, SA⟩ := id SS
  show Go Γ n0 _ T (mkF Γ.m 0 #[.val (.ref s), .val (.int j)] [])
  refine k_aloadN G X d25_0 (pc' := 1) rfl rfl rfl ?_
  refine k_callV G X (argsL := []) (rest := []) rfl SE (w139 hw) (w140 hw) (nf_sel (w142 hw)) (w142 hw) (w141 hw) (w29 hw) (w143 hw) (by decide) (str_lat hw s b k n z cs f h0 n0 _ SS hz S_CS hcs) d25_1 pd3 rfl (pc' := 4) rfl rfl (wd := 0) rfl (by decide) (by decide) (by decide) (by decide) (fun T h1 v sf1 X q => ?_)
  replace X := W.drop X
  obtain ⟨rfl, e1⟩ := q
  replace X := X.eq e1
  show Go Γ n0 _ T (mkF Γ.m 4 #[.val (.ref s), .val (.int j)] [(.int (1 : Int32))])
  refine k_if_eq G X d25_4 (pc' := 16) rfl (by decide) (pc'' := 7) rfl (fun c4 => (absurd c4 (by decide))) (fun c4 => ?_)
  refine k_aloadN G X d25_7 (pc' := 8) rfl rfl rfl ?_
  refine k_getF G X (host := "") (Or.inl (w126 hw)) Via.refl SV d25_8 (pc' := 11) rfl (fun T X => ?_)
  refine k_iloadN G X d25_11 (pc' := 12) rfl rfl ?_
  refine k_callS G X (argsL := [(.ref b), (.int j)]) (rest := []) rfl (w144 hw) (w145 hw) (w80 hw) (w146 hw) (by decide) (str_lch hw b k n i z j f fm h0 n0 _ SS.2.2.2 hz hji hin S_FM hfm) d25_12 pd4 rfl (pc' := 15) rfl rfl (wd := 0) rfl (by decide) (by decide) (by decide) (by decide) (fun T h12 v sf12 X q => ?_)
  replace X := W.drop X
  obtain ⟨r, rfl, hr, e12⟩ := q
  replace X := X.eq e12
  show Go Γ n0 _ T (mkF Γ.m 15 #[.val (.ref s), .val (.int j)] [(.int r)])
  have hnr : narrow .char (.int r) = .int r := nr_char (by omega) (by omega)
  refine k_retb G X d25_15 (t := .char) rfl (by simp) hnr ?_ (by decide) (by decide)
  exact ⟨_, rfl, hr, rfl⟩
theorem pn_46 : plainFor (⟨"java/lang/StringLatin1", "equals", "([B[B)Z"⟩ : MethodName) = true := plainFor_of_name (by first | (simp [plainName, overriddenIn]; done) | decide +kernel)
set_option maxRecDepth 65536 in
set_option maxHeartbeats 40000000 in
theorem str_leq {Z : State} {a0 : Array Value} (hw : HW a0 Z) (a b : Addr) (ka kb : ClassId) (n m : Nat) (f g : Nat → Int32) (h0 : Heap) (n0 : Nat) (sf0 : List Addr) (A : Arf Z h0 a ka .byte n (fun i => .int (f i))) (B : Arf Z h0 b kb .byte m (fun i => .int (g i))) :
    MetW Z consts_1 sf0 (⟨"java/lang/StringLatin1", "equals", "([B[B)Z"⟩ : MethodName) jdk_43_method_13_code 3 (some .boolean) [] ({ frames := 0, cells := 0, slots := 0, locals := 0 } : Room) #[(.ref a), (.ref b)] h0 n0 (fun v h sf => ∃ r : Int32, v = some (.int r) ∧ (r = 0 ∨ r = 1) ∧ (r = 1 ↔ n = m ∧ ∀ i, i < n → f i = g i) ∧ h = h0) := by
  refine k_body (hEW hw) (f := (fun m => mkF m 0 #[.val (.ref a), .val (.ref b), .unset] [])) pn_46 (fun m => by first | (simp [entryFrame, mkF, argsToLocals, Value.category, maxLocals]; done) | rfl) ?_
  intro Γ T G X
  obtain ⟨zn, hn⟩ : ∃ z : Int32, z.toInt = n := ⟨n.toInt32, len_toInt A.size_lt⟩
  obtain ⟨zm, hm⟩ : ∃ z : Int32, z.toInt = m := ⟨m.toInt32, len_toInt B.size_lt⟩
  show Go Γ n0 _ T (mkF Γ.m 0 #[.val (.ref a), .val (.ref b), .unset] [])
  refine k_aloadN G X d46_0 (pc' := 1) rfl rfl rfl ?_
  refine k_alen G X (z := zn) A hn d46_1 (pc' := 2) rfl ?_
  refine k_aloadN G X d46_2 (pc' := 3) rfl rfl rfl ?_
  refine k_alen G X (z := zm) B hm d46_3 (pc' := 4) rfl ?_
  refine k_icmp_ne G X d46_4 (pc' := 34) rfl (by decide) (pc'' := 7) rfl (fun c4 => ?_) (fun c4 => ?_)
  · refine k_iconst G X d46_34 (pc' := 35) rfl (z := (0 : Int32)) (by decide) ?_
    refine k_retb G X d46_35 (t := .boolean) rfl (by simp) rfl ?_ (by decide) (by decide)
    exact ⟨_, rfl, Or.inl rfl, ⟨fun q => absurd q (by decide), fun q => absurd (of_toInt (by rw [hn, hm, q.1])) c4⟩, rfl⟩
  · have hnm : n = m := by have : zn.toInt = zm.toInt := congrArg _ c4; omega
    refine k_iconst G X d46_7 (pc' := 8) rfl (z := (0 : Int32)) (by decide) ?_
    refine k_istoreN G X d46_8 (pc' := 9) rfl (l' := #[.val (.ref a), .val (.ref b), .val (.int (0 : Int32))]) rfl ?_
    have LOOP : ∀ (k : Nat) (T : State) (i : Int32), (0 ≤ i.toInt) → (i.toInt ≤ n) → (∀ x, x < i.toInt.toNat → f x = g x) → n - i.toInt.toNat = k → W Γ n0 T h0 0 0 (sf0) → Go Γ n0 (fun v h sf => ∃ r : Int32, v = some (.int r) ∧ (r = 0 ∨ r = 1) ∧ (r = 1 ↔ n = m ∧ ∀ i, i < n → f i = g i) ∧ h = h0) T (mkF Γ.m 9 #[.val (.ref a), .val (.ref b), .val (.int i)] []) := by
      intro k
      induction k using Nat.strongRecOn with
      | _ k ih =>
        intro T i hi0 hin hall hk X
        refine k_iloadN G X d46_9 (pc' := 10) rfl rfl ?_
        refine k_aloadN G X d46_10 (pc' := 11) rfl rfl rfl ?_
        refine k_alen G X (z := zn) A hn d46_11 (pc' := 12) rfl ?_
        refine k_icmp_ge G X d46_12 (pc' := 32) rfl (by decide) (pc'' := 15) rfl (fun c12 => ?_) (fun c12 => ?_)
        · refine k_iconst G X d46_32 (pc' := 33) rfl (z := (1 : Int32)) (by decide) ?_
          refine k_retb G X d46_33 (t := .boolean) rfl (by simp) rfl ?_ (by decide) (by decide)
          exact ⟨_, rfl, Or.inr rfl, ⟨fun _ => ⟨hnm, fun x hx => hall x (by omega)⟩, fun _ => rfl⟩, rfl⟩
        · have hlt : i.toInt < n := by omega
          have hi1 : (i + (1 : Int32)).toInt = i.toInt + 1 := iadd_toInt (by rw [show (1 : Int32).toInt = 1 from rfl]; omega) (by rw [show (1 : Int32).toInt = 1 from rfl]; have := A.size_lt; omega)
          refine k_aloadN G X d46_15 (pc' := 16) rfl rfl rfl ?_
          refine k_iloadN G X d46_16 (pc' := 17) rfl rfl ?_
          refine k_baload G X (i := i.toInt.toNat) (v := (.int (f i.toInt.toNat))) A (by omega) (by omega) rfl d46_17 (pc' := 18) rfl ?_
          refine k_aloadN G X d46_18 (pc' := 19) rfl rfl rfl ?_
          refine k_iloadN G X d46_19 (pc' := 20) rfl rfl ?_
          refine k_baload G X (i := i.toInt.toNat) (v := (.int (g i.toInt.toNat))) B (by omega) (by omega) rfl d46_20 (pc' := 21) rfl ?_
          refine k_icmp_eq G X d46_21 (pc' := 26) rfl (by decide) (pc'' := 24) rfl (fun c21 => ?_) (fun c21 => ?_)
          · refine k_iinc G X d46_26 (pc' := 29) rfl rfl (z := (i + (1 : Int32))) rfl (l' := #[.val (.ref a), .val (.ref b), .val (.int (i + (1 : Int32)))]) rfl ?_
            refine k_goto G X d46_29 (by decide) (pc' := 9) rfl ?_
            exact ih _ (by rw [hi1]; omega) T (i + (1 : Int32)) (by omega) (by omega) (fun x hx => by rcases Nat.lt_or_ge x i.toInt.toNat with q | q; exact hall x q; rw [show x = i.toInt.toNat by omega]; exact c21) rfl X
          · refine k_iconst G X d46_24 (pc' := 25) rfl (z := (0 : Int32)) (by decide) ?_
            refine k_retb G X d46_25 (t := .boolean) rfl (by simp) rfl ?_ (by decide) (by decide)
            exact ⟨_, rfl, Or.inl rfl, ⟨fun q => absurd q (by decide), fun q => absurd (q.2 i.toInt.toNat (by omega)) c21⟩, rfl⟩
    exact LOOP _ T (0 : Int32) (by decide) (by rw [z32]; omega) (fun x hx => absurd hx (by simp [z32])) rfl X
theorem pn_45 : plainFor (⟨"java/lang/String", "equals", "(Ljava/lang/Object;)Z"⟩ : MethodName) = true := plainFor_of_name (by first | (simp [plainName, overriddenIn]; done) | decide +kernel)
set_option maxRecDepth 65536 in
set_option maxHeartbeats 40000000 in
theorem str_eq {Z : State} {a0 : Array Value} (hw : HW a0 Z) (s t b b' : Addr) (k k' : ClassId) (n m : Nat) (cs : Int32) (f g : Nat → Int32) (h0 : Heap) (n0 : Nat) (sf0 : List Addr) (SS : Str Z h0 s b k n f) (TT : Str Z h0 t b' k' m g) (ne_s_t : s ≠ t) (S_CS : Sta Z h0 "java/lang/String" "COMPACT_STRINGS" "Z" (.int cs)) (hcs : cs ≠ 0) :
    MetW Z consts_1 sf0 (⟨"java/lang/String", "equals", "(Ljava/lang/Object;)Z"⟩ : MethodName) jdk_42_method_66_code 3 (some .boolean) [] ({ frames := 1, cells := 0, slots := 0, locals := 14 } : Room) #[(.ref s), (.ref t)] h0 n0 (fun v h sf => ∃ r : Int32, v = some (.int r) ∧ (r = 0 ∨ r = 1) ∧ (r = 1 ↔ n = m ∧ ∀ i, i < n → f i = g i) ∧ h = h0) := by
  refine k_body (hEW hw) (f := (fun m => mkF m 0 #[.val (.ref s), .val (.ref t), .unset] [])) pn_45 (fun m => by first | (simp [entryFrame, mkF, argsToLocals, Value.category, maxLocals]; done) | rfl) ?_
  intro Γ T G X
  obtain ⟨SE, SC, SV, SA⟩ := id SS
  obtain ⟨TE, TC, TV, TA⟩ := id TT
  show Go Γ n0 _ T (mkF Γ.m 0 #[.val (.ref s), .val (.ref t), .unset] [])
  refine k_aloadN G X d45_0 (pc' := 1) rfl rfl rfl ?_
  refine k_aloadN G X d45_1 (pc' := 2) rfl rfl rfl ?_
  refine k_acmp_ne G X d45_2 (pc' := 7) rfl (by decide) (pc'' := 5) rfl rfl rfl (fun c2 => ?_) (fun c2 => (absurd c2 (by simpa using ne_s_t)))
  refine k_aloadN G X d45_7 (pc' := 8) rfl rfl rfl ?_
  refine k_instY G X (w247 hw) (Ins.self TE) d45_8 (pc' := 11) rfl (fun T X => ?_)
  refine k_if_eq G X d45_11 (pc' := 54) rfl (by decide) (pc'' := 14) rfl (fun c11 => (absurd c11 (by decide))) (fun c11 => ?_)
  refine k_aloadN G X d45_14 (pc' := 15) rfl rfl rfl ?_
  refine k_castY G X (w247 hw) (Ins.self TE) d45_15 (pc' := 18) rfl (fun T X => ?_)
  refine k_astoreN G X d45_18 (pc' := 19) rfl rfl (l' := #[.val (.ref s), .val (.ref t), .val (.ref t)]) rfl ?_
  refine k_getS G X (host := "") (Or.inl (w132 hw)) Via.refl S_CS d45_19 (pc' := 22) rfl (fun T X => ?_)
  refine k_if_eq G X d45_22 (pc' := 36) rfl (by decide) (pc'' := 25) rfl (fun c22 => (absurd c22 hcs)) (fun c22 => ?_)
  refine k_aloadN G X d45_25 (pc' := 26) rfl rfl rfl ?_
  refine k_getF G X (host := "") (Or.inl (w133 hw)) Via.refl SC d45_26 (pc' := 29) rfl (fun T X => ?_)
  refine k_aloadN G X d45_29 (pc' := 30) rfl rfl rfl ?_
  refine k_getF G X (host := "") (Or.inl (w133 hw)) Via.refl TC d45_30 (pc' := 33) rfl (fun T X => ?_)
  refine k_icmp_ne G X d45_33 (pc' := 54) rfl (by decide) (pc'' := 36) rfl (fun c33 => (absurd c33 (by decide))) (fun c33 => ?_)
  refine k_aloadN G X d45_36 (pc' := 37) rfl rfl rfl ?_
  refine k_getF G X (host := "") (Or.inl (w126 hw)) Via.refl SV d45_37 (pc' := 40) rfl (fun T X => ?_)
  refine k_aloadN G X d45_40 (pc' := 41) rfl rfl rfl ?_
  refine k_getF G X (host := "") (Or.inl (w126 hw)) Via.refl TV d45_41 (pc' := 44) rfl (fun T X => ?_)
  refine k_callS G X (argsL := [(.ref b), (.ref b')]) (rest := []) rfl (w248 hw) (w249 hw) (w80 hw) (w250 hw) (by decide) (str_leq hw b b' k k' n m f g h0 n0 _ SS.2.2.2 TT.2.2.2) d45_44 pd5 rfl (pc' := 47) rfl rfl (wd := 0) rfl (by decide) (by decide) (by decide) (by decide) (fun T h44 v sf44 X q => ?_)
  replace X := W.drop X
  obtain ⟨r, rfl, hr, hiff, e44⟩ := q
  replace X := X.eq e44
  show Go Γ n0 _ T (mkF Γ.m 47 #[.val (.ref s), .val (.ref t), .val (.ref t)] [(.int r)])
  refine k_if_eq G X d45_47 (pc' := 54) rfl (by decide) (pc'' := 50) rfl (fun c47 => ?_) (fun c47 => ?_)
  · refine k_iconst G X d45_54 (pc' := 55) rfl (z := (0 : Int32)) (by decide) ?_
    refine k_retb G X d45_55 (t := .boolean) rfl (by simp) rfl ?_ (by decide) (by decide)
    exact ⟨_, rfl, Or.inl rfl, by rw [← hiff]; rcases hr with rfl | rfl <;> simp_all, rfl⟩
  · refine k_iconst G X d45_50 (pc' := 51) rfl (z := (1 : Int32)) (by decide) ?_
    refine k_goto G X d45_51 (by decide) (pc' := 55) rfl ?_
    refine k_retb G X d45_55 (t := .boolean) rfl (by simp) rfl ?_ (by decide) (by decide)
    exact ⟨_, rfl, Or.inr rfl, by rw [← hiff]; rcases hr with rfl | rfl <;> simp_all, rfl⟩
set_option maxRecDepth 65536 in
set_option maxHeartbeats 40000000 in
theorem str_eqs {Z : State} {a0 : Array Value} (hw : HW a0 Z) (s : Addr) (h0 : Heap) (n0 : Nat) (sf0 : List Addr) :
    MetW Z consts_1 sf0 (⟨"java/lang/String", "equals", "(Ljava/lang/Object;)Z"⟩ : MethodName) jdk_42_method_66_code 3 (some .boolean) [] ({ frames := 0, cells := 0, slots := 0, locals := 0 } : Room) #[(.ref s), (.ref s)] h0 n0 (fun v h sf => v = some (.int 1) ∧ h = h0) := by
  refine k_body (hEW hw) (f := (fun m => mkF m 0 #[.val (.ref s), .val (.ref s), .unset] [])) pn_45 (fun m => by first | (simp [entryFrame, mkF, argsToLocals, Value.category, maxLocals]; done) | rfl) ?_
  intro Γ T G X
  show Go Γ n0 _ T (mkF Γ.m 0 #[.val (.ref s), .val (.ref s), .unset] [])
  refine k_aloadN G X d45_0 (pc' := 1) rfl rfl rfl ?_
  refine k_aloadN G X d45_1 (pc' := 2) rfl rfl rfl ?_
  refine k_acmp_ne G X d45_2 (pc' := 7) rfl (by decide) (pc'' := 5) rfl rfl rfl (fun c2 => (absurd c2 (by simp))) (fun c2 => ?_)
  refine k_iconst G X d45_5 (pc' := 6) rfl (z := (1 : Int32)) (by decide) ?_
  refine k_retb G X d45_6 (t := .boolean) rfl (by simp) rfl ?_ (by decide) (by decide)
  exact ⟨rfl, rfl⟩
theorem pn_35 : plainFor (⟨"java/lang/Math", "max", "(II)I"⟩ : MethodName) = true := Jvm.Free.JP.mathPlain rfl (by decide +kernel)
set_option maxRecDepth 65536 in
set_option maxHeartbeats 40000000 in
theorem m_max {Z : State} {a0 : Array Value} (hw : HW a0 Z) (a b : Int32) (h0 : Heap) (n0 : Nat) (sf0 : List Addr) :
    MetW Z consts_1 sf0 (⟨"java/lang/Math", "max", "(II)I"⟩ : MethodName) jdk_29_method_65_code 2 (some .int) [] ({ frames := 0, cells := 0, slots := 0, locals := 0 } : Room) #[(.int a), (.int b)] h0 n0 (fun v h sf => ∃ r : Int32, v = some (.int r) ∧ (b.toInt ≤ a.toInt → r.toInt = a.toInt) ∧ (a.toInt < b.toInt → r.toInt = b.toInt) ∧ h = h0) := by
  refine k_body (hEW hw) (f := (fun m => mkF m 0 #[.val (.int a), .val (.int b)] [])) pn_35 (fun m => by first | (simp [entryFrame, mkF, argsToLocals, Value.category, maxLocals]; done) | rfl) ?_
  intro Γ T G X
  show Go Γ n0 _ T (mkF Γ.m 0 #[.val (.int a), .val (.int b)] [])
  refine k_iloadN G X d35_0 (pc' := 1) rfl rfl ?_
  refine k_iloadN G X d35_1 (pc' := 2) rfl rfl ?_
  refine k_icmp_lt G X d35_2 (pc' := 9) rfl (by decide) (pc'' := 5) rfl (fun c2 => ?_) (fun c2 => ?_)
  · refine k_iloadN G X d35_9 (pc' := 10) rfl rfl ?_
    refine k_reti G X d35_10 rfl ?_ (by decide) (by decide)
    exact ⟨_, rfl, by intros; first | rfl | omega, by intros; first | rfl | omega, rfl⟩
  · refine k_iloadN G X d35_5 (pc' := 6) rfl rfl ?_
    refine k_goto G X d35_6 (by decide) (pc' := 10) rfl ?_
    refine k_reti G X d35_10 rfl ?_ (by decide) (by decide)
    exact ⟨_, rfl, by intros; first | rfl | omega, by intros; first | rfl | omega, rfl⟩
theorem pn_19 : plainFor (⟨"java/lang/Math", "min", "(II)I"⟩ : MethodName) = true := Jvm.Free.JP.mathPlain rfl (by decide +kernel)
set_option maxRecDepth 65536 in
set_option maxHeartbeats 40000000 in
theorem m_min {Z : State} {a0 : Array Value} (hw : HW a0 Z) (a b : Int32) (h0 : Heap) (n0 : Nat) (sf0 : List Addr) :
    MetW Z consts_1 sf0 (⟨"java/lang/Math", "min", "(II)I"⟩ : MethodName) jdk_29_method_69_code 2 (some .int) [] ({ frames := 0, cells := 0, slots := 0, locals := 0 } : Room) #[(.int a), (.int b)] h0 n0 (fun v h sf => ∃ r : Int32, v = some (.int r) ∧ (b.toInt ≤ a.toInt → r.toInt = b.toInt) ∧ (a.toInt < b.toInt → r.toInt = a.toInt) ∧ h = h0) := by
  refine k_body (hEW hw) (f := (fun m => mkF m 0 #[.val (.int a), .val (.int b)] [])) pn_19 (fun m => by first | (simp [entryFrame, mkF, argsToLocals, Value.category, maxLocals]; done) | rfl) ?_
  intro Γ T G X
  show Go Γ n0 _ T (mkF Γ.m 0 #[.val (.int a), .val (.int b)] [])
  refine k_iloadN G X d19_0 (pc' := 1) rfl rfl ?_
  refine k_iloadN G X d19_1 (pc' := 2) rfl rfl ?_
  refine k_icmp_gt G X d19_2 (pc' := 9) rfl (by decide) (pc'' := 5) rfl (fun c2 => ?_) (fun c2 => ?_)
  · refine k_iloadN G X d19_9 (pc' := 10) rfl rfl ?_
    refine k_reti G X d19_10 rfl ?_ (by decide) (by decide)
    exact ⟨_, rfl, by intros; first | rfl | omega, by intros; first | rfl | omega, rfl⟩
  · refine k_iloadN G X d19_5 (pc' := 6) rfl rfl ?_
    refine k_goto G X d19_6 (by decide) (pc' := 10) rfl ?_
    refine k_reti G X d19_10 rfl ?_ (by decide) (by decide)
    exact ⟨_, rfl, by intros; first | rfl | omega, by intros; first | rfl | omega, rfl⟩
theorem pn_34 : plainFor (⟨"jdk/internal/util/ArraysSupport", "newLength", "(III)I"⟩ : MethodName) = true := plainFor_of_name (by first | (simp [plainName, overriddenIn]; done) | decide +kernel)
set_option maxRecDepth 65536 in
set_option maxHeartbeats 40000000 in
theorem nlen {Z : State} {a0 : Array Value} (hw : HW a0 Z) (a b d : Int32) (h0 : Heap) (n0 : Nat) (sf0 : List Addr) (h0a : 0 ≤ a.toInt) (h0b : 0 < b.toInt) (h0d : 0 ≤ d.toInt) (hab : a.toInt + max b.toInt d.toInt ≤ 1000) :
    MetW Z consts_1 sf0 (⟨"jdk/internal/util/ArraysSupport", "newLength", "(III)I"⟩ : MethodName) jdk_48_method_27_code 4 (some .int) [] ({ frames := 1, cells := 0, slots := 0, locals := 14 } : Room) #[(.int a), (.int b), (.int d)] h0 n0 (fun v h sf => ∃ r : Int32, v = some (.int r) ∧ r.toInt = a.toInt + max b.toInt d.toInt ∧ h = h0) := by
  refine k_body (hEW hw) (f := (fun m => mkF m 0 #[.val (.int a), .val (.int b), .val (.int d), .unset] [])) pn_34 (fun m => by first | (simp [entryFrame, mkF, argsToLocals, Value.category, maxLocals]; done) | rfl) ?_
  intro Γ T G X
  show Go Γ n0 _ T (mkF Γ.m 0 #[.val (.int a), .val (.int b), .val (.int d), .unset] [])
  refine k_iloadN G X d34_0 (pc' := 1) rfl rfl ?_
  refine k_iloadN G X d34_1 (pc' := 2) rfl rfl ?_
  refine k_iloadN G X d34_2 (pc' := 3) rfl rfl ?_
  refine k_callS G X (argsL := [(.int b), (.int d)]) (rest := [(.int a)]) rfl (w195 hw) (w196 hw) (w16 hw) (w197 hw) (by decide) (m_max hw b d h0 n0 _) d34_3 pd6 rfl (pc' := 6) rfl rfl (wd := 1) rfl (by decide) (by decide) (by decide) (by decide) (fun T h3 v sf3 X q => ?_)
  replace X := W.drop X
  obtain ⟨r, rfl, q1, q2, e3⟩ := q
  replace X := X.eq e3
  show Go Γ n0 _ T (mkF Γ.m 6 #[.val (.int a), .val (.int b), .val (.int d), .unset] [(.int r), (.int a)])
  refine k_iadd G X d34_6 (pc' := 7) rfl rfl ?_
  have hs : (a + r).toInt = a.toInt + max b.toInt d.toInt := by rw [iadd_toInt (by omega) (by omega)]; omega
  refine k_istoreN G X d34_7 (pc' := 8) rfl (l' := #[.val (.int a), .val (.int b), .val (.int d), .val (.int (a + r))]) rfl ?_
  refine k_iconst G X d34_8 (pc' := 9) rfl (z := (0 : Int32)) (by decide) ?_
  refine k_iloadN G X d34_9 (pc' := 10) rfl rfl ?_
  refine k_icmp_ge G X d34_10 (pc' := 21) rfl (by decide) (pc'' := 13) rfl (fun c10 => (absurd c10 (by have := z32; omega))) (fun c10 => ?_)
  refine k_iloadN G X d34_13 (pc' := 14) rfl rfl ?_
  refine k_ldcI G X (w198 hw) d34_14 (pc' := 16) rfl ?_
  refine k_icmp_gt G X d34_16 (pc' := 21) rfl (by decide) (pc'' := 19) rfl (fun c16 => (absurd c16 (by rw [show (2147483639 : Int32).toInt = 2147483639 from rfl]; omega))) (fun c16 => ?_)
  refine k_iloadN G X d34_19 (pc' := 20) rfl rfl ?_
  refine k_reti G X d34_20 rfl ?_ (by decide) (by decide)
  exact ⟨_, rfl, hs, rfl⟩
theorem pn_33 : plainFor (⟨"java/lang/AbstractStringBuilder", "newCapacity", "(I)I"⟩ : MethodName) = true := plainFor_of_name (by first | (simp [plainName, overriddenIn]; done) | decide +kernel)
set_option maxRecDepth 65536 in
set_option maxHeartbeats 40000000 in
theorem ncap {Z : State} {a0 : Array Value} (hw : HW a0 Z) (o b : Addr) (k : ClassId) (cap : Nat) (zC z : Int32) (g : Nat → Value) (h0 : Heap) (n0 : Nat) (sf0 : List Addr) (FV : Fld Z h0 o "java/lang/AbstractStringBuilder" "value" "[B" (.ref b)) (FC : Fld Z h0 o "java/lang/AbstractStringBuilder" "coder" "B" (.int (0 : Int32))) (B : Arf Z h0 b k .byte cap g) (hC : zC.toInt = cap) (hz1 : cap < z.toInt) (hz2 : z.toInt ≤ 32) :
    MetW Z consts_1 sf0 (⟨"java/lang/AbstractStringBuilder", "newCapacity", "(I)I"⟩ : MethodName) jdk_68_method_10_code 6 (some .int) [] ({ frames := 2, cells := 0, slots := 0, locals := 29 } : Room) #[(.ref o), (.int z)] h0 n0 (fun v h sf => ∃ r : Int32, v = some (.int r) ∧ z.toInt ≤ r.toInt ∧ r.toInt ≤ 64 ∧ h = h0) := by
  refine k_body (hEW hw) (f := (fun m => mkF m 0 #[.val (.ref o), .val (.int z), .unset, .unset, .unset, .unset] [])) pn_33 (fun m => by first | (simp [entryFrame, mkF, argsToLocals, Value.category, maxLocals]; done) | rfl) ?_
  intro Γ T G X
  have e2 : (2 : Int32).toInt = 2 := rfl
  have hg : (z - zC).toInt = z.toInt - zC.toInt := isub_toInt (by omega) (by omega)
  have hp : (zC + (2 : Int32)).toInt = zC.toInt + 2 := by rw [iadd_toInt (by omega) (by omega), e2]
  show Go Γ n0 _ T (mkF Γ.m 0 #[.val (.ref o), .val (.int z), .unset, .unset, .unset, .unset] [])
  refine k_aloadN G X d33_0 (pc' := 1) rfl rfl rfl ?_
  refine k_getF G X (host := "") (Or.inl (w31 hw)) Via.refl FV d33_1 (pc' := 4) rfl (fun T X => ?_)
  refine k_alen G X (z := zC) B hC d33_4 (pc' := 5) rfl ?_
  refine k_istoreN G X d33_5 (pc' := 6) rfl (l' := #[.val (.ref o), .val (.int z), .val (.int zC), .unset, .unset, .unset]) rfl ?_
  refine k_iloadN G X d33_6 (pc' := 7) rfl rfl ?_
  refine k_aloadN G X d33_7 (pc' := 8) rfl rfl rfl ?_
  refine k_getF G X (host := "") (Or.inl (w33 hw)) Via.refl FC d33_8 (pc' := 11) rfl (fun T X => ?_)
  refine k_ishl G X d33_11 (pc' := 12) rfl rfl ?_
  rw [shl0 z]
  refine k_istoreN G X d33_12 (pc' := 13) rfl (l' := #[.val (.ref o), .val (.int z), .val (.int zC), .val (.int z), .unset, .unset]) rfl ?_
  refine k_iloadN G X d33_13 (pc' := 14) rfl rfl ?_
  refine k_iloadN G X d33_14 (pc' := 15) rfl rfl ?_
  refine k_isub G X d33_15 (pc' := 16) rfl rfl ?_
  refine k_istore G X d33_16 (pc' := 18) rfl (l' := #[.val (.ref o), .val (.int z), .val (.int zC), .val (.int z), .val (.int (z - zC)), .unset]) rfl ?_
  refine k_iloadN G X d33_18 (pc' := 19) rfl rfl ?_
  refine k_iload G X d33_19 (pc' := 21) rfl rfl ?_
  refine k_iloadN G X d33_21 (pc' := 22) rfl rfl ?_
  refine k_iconst G X d33_22 (pc' := 23) rfl (z := (2 : Int32)) (by decide) ?_
  refine k_aloadN G X d33_23 (pc' := 24) rfl rfl rfl ?_
  refine k_getF G X (host := "") (Or.inl (w33 hw)) Via.refl FC d33_24 (pc' := 27) rfl (fun T X => ?_)
  refine k_ishl G X d33_27 (pc' := 28) rfl (z := (2 : Int32)) (by decide) ?_
  refine k_iadd G X d33_28 (pc' := 29) rfl rfl ?_
  refine k_callS G X (argsL := [(.int zC), (.int (z - zC)), (.int (zC + (2 : Int32)))]) (rest := []) rfl (w191 hw) (w192 hw) (w193 hw) (w194 hw) (by decide) (nlen hw zC (z - zC) (zC + (2 : Int32)) h0 n0 _ (by omega) (by omega) (by omega) (by omega)) d33_29 pd7 rfl (pc' := 32) rfl rfl (wd := 0) rfl (by decide) (by decide) (by decide) (by decide) (fun T h29 v sf29 X q => ?_)
  replace X := W.drop X
  obtain ⟨r, rfl, hr, e29⟩ := q
  replace X := X.eq e29
  show Go Γ n0 _ T (mkF Γ.m 32 #[.val (.ref o), .val (.int z), .val (.int zC), .val (.int z), .val (.int (z - zC)), .unset] [(.int r)])
  refine k_istore G X d33_32 (pc' := 34) rfl (l' := #[.val (.ref o), .val (.int z), .val (.int zC), .val (.int z), .val (.int (z - zC)), .val (.int r)]) rfl ?_
  refine k_iload G X d33_34 (pc' := 36) rfl rfl ?_
  refine k_ldcI G X (w199 hw) d33_36 (pc' := 38) rfl ?_
  refine k_icmp_ne G X d33_38 (pc' := 51) rfl (by decide) (pc'' := 41) rfl (fun c38 => ?_) (fun c38 => (absurd c38 (fun q => by rw [q, show (2147483647 : Int32).toInt = 2147483647 from rfl] at hr; omega)))
  refine k_iload G X d33_51 (pc' := 53) rfl rfl ?_
  refine k_aloadN G X d33_53 (pc' := 54) rfl rfl rfl ?_
  refine k_getF G X (host := "") (Or.inl (w33 hw)) Via.refl FC d33_54 (pc' := 57) rfl (fun T X => ?_)
  refine k_ishr G X d33_57 (pc' := 58) rfl rfl ?_
  rw [shr0 r]
  refine k_reti G X d33_58 rfl ?_ (by decide) (by decide)
  exact ⟨_, rfl, by omega, by omega, rfl⟩
theorem pn_36 : plainFor (⟨"java/util/Arrays", "copyOf", "([BI)[B"⟩ : MethodName) = true := plainFor_of_name (by first | (simp [plainName, overriddenIn]; done) | decide +kernel)
set_option maxRecDepth 65536 in
set_option maxHeartbeats 40000000 in
theorem cpof {Z : State} {a0 : Array Value} (hw : HW a0 Z) (b : Addr) (k : ClassId) (cap n : Nat) (zC z : Int32) (g : Nat → Value) (h0 : Heap) (n0 : Nat) (sf0 : List Addr) (O : Old Z n0 h0) (B : Arf Z h0 b k .byte cap g) (hC : zC.toInt = cap) (hz : z.toInt = n) (hlt : cap < n) (hn : n ≤ 64) :
    MetW Z consts_1 sf0 (⟨"java/util/Arrays", "copyOf", "([BI)[B"⟩ : MethodName) jdk_65_method_121_code 3 (some (.array .byte)) [] ({ frames := 1, cells := 1, slots := 64, locals := 18 } : Room) #[(.ref b), (.int z)] h0 n0 (fun v h sf => ∃ r kr, v = some (.ref r) ∧ h0.size ≤ r ∧ Keep h0 h [] ∧ Arf Z h r kr .byte n (fun i => if i < cap then g i else .int 0) ∧ Exa Z h r "[B" ∧ r ∈ sf) := by
  refine k_body (hEW hw) (f := (fun m => mkF m 0 #[.val (.ref b), .val (.int z), .unset] [])) pn_36 (fun m => by first | (simp [entryFrame, mkF, argsToLocals, Value.category, maxLocals]; done) | rfl) ?_
  intro Γ T G X
  have KP := Keep.refl h0 []
  show Go Γ n0 _ T (mkF Γ.m 0 #[.val (.ref b), .val (.int z), .unset] [])
  refine k_iloadN G X d36_0 (pc' := 1) rfl rfl ?_
  refine k_aloadN G X d36_1 (pc' := 2) rfl rfl rfl ?_
  refine k_alen G X (z := zC) B hC d36_2 (pc' := 3) rfl ?_
  refine k_icmp_ne G X d36_3 (pc' := 14) rfl (by decide) (pc'' := 6) rfl (fun c3 => ?_) (fun c3 => (absurd c3 (by intro q; rw [q] at hz; omega)))
  refine k_iloadN G X d36_14 (pc' := 15) rfl rfl ?_
  refine k_newPE G X (aty := .byte) (n := n) (cap := 64) (w30 hw) (ad := "[B") (by decide) d36_15 (pc' := 17) rfl hz hn (by decide) (by decide) (by decide) (fun T h15 b15 k15 s_b15 E15 A_b15 Y_b15 X => ?_)
  have ne_b_b15 : b ≠ b15 := Nat.ne_of_lt (Nat.lt_of_lt_of_eq B.lt s_b15)
  have ge_b15 : n0 ≤ b15 := Nat.le_trans (Jvm.OwnK.Old_le O) (Nat.le_of_eq s_b15)
  have sz_b15 : h0.size ≤ b15 := Nat.le_trans KP.1 (Nat.le_of_eq s_b15)
  replace O := O.ext E15
  replace B := B.ext E15
  replace KP := KP.ext E15
  replace A_b15 : Arf Z h15 b15 k15 .byte n (fun _ => (.int (0 : Int32))) := A_b15
  refine k_astoreN G X d36_17 (pc' := 18) rfl rfl (l' := #[.val (.ref b), .val (.int z), .val (.ref b15)]) rfl ?_
  refine k_aloadN G X d36_18 (pc' := 19) rfl rfl rfl ?_
  refine k_iconst G X d36_19 (pc' := 20) rfl (z := (0 : Int32)) (by decide) ?_
  refine k_aloadN G X d36_20 (pc' := 21) rfl rfl rfl ?_
  refine k_iconst G X d36_21 (pc' := 22) rfl (z := (0 : Int32)) (by decide) ?_
  refine k_aloadN G X d36_22 (pc' := 23) rfl rfl rfl ?_
  refine k_alen G X (z := zC) B hC d36_23 (pc' := 24) rfl ?_
  refine k_iloadN G X d36_24 (pc' := 25) rfl rfl ?_
  refine k_callS G X (argsL := [(.int zC), (.int z)]) (rest := [(.int (0 : Int32)), (.ref b15), (.int (0 : Int32)), (.ref b)]) rfl (w204 hw) (w107 hw) (w16 hw) (w108 hw) (by decide) (m_min hw zC z h15 n0 _) d36_25 pd6 rfl (pc' := 28) rfl rfl (wd := 4) rfl (by decide) (by decide) (by decide) (by decide) (fun T h25 v sf25 X q => ?_)
  replace X := W.drop X
  obtain ⟨r25, rfl, q1, q2, e25⟩ := q
  replace X := X.eq e25
  obtain rfl : zC = r25 := of_toInt (by omega)
  show Go Γ n0 _ T (mkF Γ.m 28 #[.val (.ref b), .val (.int z), .val (.ref b15)] [(.int zC), (.int (0 : Int32)), (.ref b15), (.int (0 : Int32)), (.ref b)])
  refine k_copy G X (sp := 0) (dp := 0) (nn := cap) B A_b15 rfl (w205 hw) (w185 hw) (w183 hw) (w184 hw) rfl rfl hC (by omega) (by omega) ge_b15 (List.mem_of_getElem? (i := 0) rfl) d36_28 (pc' := 31) rfl rfl (by decide) (wd := 0) rfl (by decide) (fun T h28 K28 A_b15' X => ?_)
  replace O := O.keep K28 (allS ge_b15 (all0))
  replace B := B.keep K28 (nin1 ne_b_b15)
  replace KP := KP.trans K28 (allS (Or.inr sz_b15) (all0))
  replace Y_b15 := Y_b15.keep K28
  have A_b15 := A_b15'
  refine k_aloadN G X d36_31 (pc' := 32) rfl rfl rfl ?_
  refine k_reta G X d36_32 (t := (.array .byte)) rfl rfl rfl ?_ (by decide) (by decide)
  exact ⟨b15, k15, rfl, sz_b15, KP, A_b15.congr fun i hi => by by_cases q : i < cap <;> simp [q], Y_b15, (List.mem_of_getElem? (i := 0) rfl)⟩
theorem pn_12 : plainFor (⟨"java/lang/AbstractStringBuilder", "ensureCapacityInternal", "(I)V"⟩ : MethodName) = true := plainFor_of_name (by first | (simp [plainName, overriddenIn]; done) | decide +kernel)
set_option maxRecDepth 65536 in
set_option maxHeartbeats 40000000 in
theorem sb_ens {Z : State} {a0 : Array Value} (hw : HW a0 Z) (o b : Addr) (k : ClassId) (cap : Nat) (L : List Int32) (cs : Int32) (z : Int32) (h0 : Heap) (n0 : Nat) (sf0 : List Addr) (gm_o : n0 ≤ o ∧ o ∈ sf0) (gm_b : n0 ≤ b ∧ b ∈ sf0) (O : Old Z n0 h0) (BL : Bld Z h0 o b k cap L) (S_CS : Sta Z h0 "java/lang/String" "COMPACT_STRINGS" "Z" (.int cs)) (hcs : cs ≠ 0) (hz0 : 0 ≤ z.toInt) (hz2 : z.toInt ≤ 32) (hLz : L.length ≤ z.toInt) :
    MetW Z consts_1 sf0 (⟨"java/lang/AbstractStringBuilder", "ensureCapacityInternal", "(I)V"⟩ : MethodName) jdk_68_method_9_code 3 none [] ({ frames := 3, cells := 1, slots := 64, locals := 48 } : Room) #[(.ref o), (.int z)] h0 n0 (fun v h sf => v = none ∧ Keep h0 h [o] ∧ ∃ u ku cu, Bld Z h o u ku cu L ∧ z.toInt ≤ cu ∧ (u = b ∨ h0.size ≤ u) ∧ n0 ≤ u ∧ u ∈ sf) := by
  refine k_body (hEW hw) (f := (fun m => mkF m 0 #[.val (.ref o), .val (.int z), .unset] [])) pn_12 (fun m => by first | (simp [entryFrame, mkF, argsToLocals, Value.category, maxLocals]; done) | rfl) ?_
  intro Γ T G X
  have ge_o := gm_o.1
  have ge_b := gm_b.1
  obtain ⟨E, YB, FV, FC, ⟨zN, hN, FN⟩, ⟨f, B, hf⟩, hcap⟩ := id BL
  have ne_b_o : b ≠ o := BL.ne
  obtain ⟨zC, hC⟩ : ∃ z : Int32, z.toInt = cap := ⟨cap.toInt32, len_toInt B.size_lt⟩
  have e1 : (1 : Int32).toInt = 1 := rfl
  have KP := Keep.refl h0 [o]
  have hsub : (z - zC).toInt = z.toInt - zC.toInt := isub_toInt (by have := B.size_lt; omega) (by omega)
  show Go Γ n0 _ T (mkF Γ.m 0 #[.val (.ref o), .val (.int z), .unset] [])
  refine k_aloadN G X d12_0 (pc' := 1) rfl rfl rfl ?_
  refine k_getF G X (host := "") (Or.inl (w31 hw)) Via.refl FV d12_1 (pc' := 4) rfl (fun T X => ?_)
  refine k_alen G X (z := zC) B hC d12_4 (pc' := 5) rfl ?_
  refine k_aloadN G X d12_5 (pc' := 6) rfl rfl rfl ?_
  refine k_getF G X (host := "") (Or.inl (w33 hw)) Via.refl FC d12_6 (pc' := 9) rfl (fun T X => ?_)
  refine k_ishr G X d12_9 (pc' := 10) rfl rfl ?_
  rw [shr0 zC]
  refine k_istoreN G X d12_10 (pc' := 11) rfl (l' := #[.val (.ref o), .val (.int z), .val (.int zC)]) rfl ?_
  refine k_iloadN G X d12_11 (pc' := 12) rfl rfl ?_
  refine k_iloadN G X d12_12 (pc' := 13) rfl rfl ?_
  refine k_isub G X d12_13 (pc' := 14) rfl rfl ?_
  refine k_if_le G X d12_14 (pc' := 38) rfl (by decide) (pc'' := 17) rfl (fun c14 => ?_) (fun c14 => ?_)
  · refine k_retv G X d12_38 rfl ?_ (by decide) (by decide)
    exact ⟨rfl, KP, b, k, cap, ⟨E, YB, FV, FC, ⟨zN, hN, FN⟩, ⟨f, B, hf⟩, hcap⟩, by omega, Or.inl rfl, ge_b, (List.mem_append_right [] gm_b.2)⟩
  · refine k_aloadN G X d12_17 (pc' := 18) rfl rfl rfl ?_
    refine k_aloadN G X d12_18 (pc' := 19) rfl rfl rfl ?_
    refine k_getF G X (host := "") (Or.inl (w31 hw)) Via.refl FV d12_19 (pc' := 22) rfl (fun T X => ?_)
    refine k_aloadN G X d12_22 (pc' := 23) rfl rfl rfl ?_
    refine k_iloadN G X d12_23 (pc' := 24) rfl rfl ?_
    refine k_callP G X (argsL := [(.int z)]) (rest := [(.ref b), (.ref o)]) rfl E (w186 hw) (w187 hw) (selQ (w189 hw) (w188 hw) (w187 hw) (by decide)) (w188 hw) (w25 hw) (w190 hw) (by decide) (ncap hw o b k cap zC z _ h0 n0 _ FV FC B hC (by omega) hz2) d12_24 pd8 rfl (pc' := 27) rfl rfl (wd := 2) rfl (by decide) (by decide) (by decide) (by decide) (fun T h24 v sf24 X q => ?_)
    replace X := W.drop X
    obtain ⟨r, rfl, hr1, hr2, e24⟩ := q
    replace X := X.eq e24
    show Go Γ n0 _ T (mkF Γ.m 27 #[.val (.ref o), .val (.int z), .val (.int zC)] [(.int r), (.ref b), (.ref o)])
    refine k_aloadN G X d12_27 (pc' := 28) rfl rfl rfl ?_
    refine k_getF G X (host := "") (Or.inl (w33 hw)) Via.refl FC d12_28 (pc' := 31) rfl (fun T X => ?_)
    refine k_ishl G X d12_31 (pc' := 32) rfl rfl ?_
    rw [shl0 r]
    refine k_callS G X (argsL := [(.ref b), (.int r)]) (rest := [(.ref o)]) rfl (w200 hw) (w201 hw) (w202 hw) (w203 hw) (by decide) (cpof hw b k cap r.toInt.toNat zC r _ h0 n0 _ O B hC (by omega) (by omega) (by omega)) d12_32 pd9 rfl (pc' := 35) rfl rfl (wd := 1) rfl (by decide) (by decide) (by decide) (by decide) (fun T h32 v sf32 X q => ?_)
    obtain ⟨u, ku, rfl, sz_u, K32, BU, YU, mu⟩ := q
    replace X := W.only X mu
    have ne_o_u : o ≠ u := Nat.ne_of_lt (Nat.lt_of_lt_of_le E.lt sz_u)
    have ge_u : n0 ≤ u := Nat.le_trans (Old_le O) sz_u
    replace S_CS := Jvm.OwnK.Sta_keep S_CS K32
    replace E := E.keep K32
    replace YB := YB.keep K32
    replace FV := FV.keep K32 nin0
    replace FC := FC.keep K32 nin0
    replace FN := FN.keep K32 nin0
    replace B := B.keep K32 nin0
    replace O := O.keep K32 (all0)
    replace KP := KP.trans K32 (all0)
    show Go Γ n0 _ T (mkF Γ.m 35 #[.val (.ref o), .val (.int z), .val (.int zC)] [(.ref u), (.ref o)])
    refine k_putF G X (host := "") (Or.inl (w31 hw)) Via.refl FV E (Or.inl (w32 hw)) (w11 hw) (ty := (.array .byte)) (by decide) rfl rfl ge_o (List.mem_append_right [u] gm_o.2) d12_35 (pc' := 38) rfl (fun T h35 W35 X => ?_)
    replace E := E.wr W35
    replace YB := YB.wr W35
    replace FV := FV.same W35
    replace FC := FC.other W35 (Or.inr (slot_ne (Or.inl (w34 hw)) (Or.inl (w32 hw)) (by decide) (t := .byte) (t' := (.array .byte)) (by decide) (by decide)))
    replace FN := FN.other W35 (Or.inr (slot_ne (Or.inl (w58 hw)) (Or.inl (w32 hw)) (by decide) (t := .int) (t' := (.array .byte)) (by decide) (by decide)))
    replace B := B.other W35 ne_b_o
    replace O := O.wr W35 ge_o
    replace KP := KP.wr W35 (Or.inl (List.mem_of_getElem? (i := 0) rfl))
    replace S_CS := S_CS.wr W35
    replace BU := BU.other W35 (Ne.symm ne_o_u)
    replace YU := YU.wr W35
    refine k_retv G X d12_38 rfl ?_ (by decide) (by decide)
    exact ⟨rfl, KP, u, ku, r.toInt.toNat, ⟨E, YU, FV, FC, ⟨zN, hN, FN⟩, ⟨fun i => if i < cap then f i else 0, BU.congr (fun i _ => by by_cases q : i < cap <;> simp [q]), fun i hi => by show (if i < cap then f i else 0) = _; rw [if_pos (by omega)]; exact hf i hi⟩, by omega⟩, by omega, Or.inr sz_u, ge_u, (List.mem_of_getElem? (i := 0) rfl)⟩
theorem pn_44 : plainFor (⟨"java/util/Arrays", "checkLength", "(II)V"⟩ : MethodName) = true := plainFor_of_name (by first | (simp [plainName, overriddenIn]; done) | decide +kernel)
set_option maxRecDepth 65536 in
set_option maxHeartbeats 40000000 in
theorem ar_chk {Z : State} {a0 : Array Value} (hw : HW a0 Z) (z : Int32) (h0 : Heap) (n0 : Nat) (sf0 : List Addr) (h0z : 0 ≤ z.toInt) :
    MetW Z consts_1 sf0 (⟨"java/util/Arrays", "checkLength", "(II)V"⟩ : MethodName) jdk_65_method_131_code 2 none [] ({ frames := 0, cells := 0, slots := 0, locals := 0 } : Room) #[(.int (0 : Int32)), (.int z)] h0 n0 (fun v h sf => v = none ∧ h = h0) := by
  refine k_body (hEW hw) (f := (fun m => mkF m 0 #[.val (.int (0 : Int32)), .val (.int z)] [])) pn_44 (fun m => by first | (simp [entryFrame, mkF, argsToLocals, Value.category, maxLocals]; done) | rfl) ?_
  intro Γ T G X
  show Go Γ n0 _ T (mkF Γ.m 0 #[.val (.int (0 : Int32)), .val (.int z)] [])
  refine k_iloadN G X d44_0 (pc' := 1) rfl rfl ?_
  refine k_iloadN G X d44_1 (pc' := 2) rfl rfl ?_
  refine k_icmp_ge G X d44_2 (pc' := 37) rfl (by decide) (pc'' := 5) rfl (fun c2 => ?_) (fun c2 => (absurd c2 (by have := z32; omega)))
  refine k_retv G X d44_37 rfl ?_ (by decide) (by decide)
  exact ⟨rfl, rfl⟩
theorem pn_43 : plainFor (⟨"java/util/Arrays", "copyOfRangeByte", "([BII)[B"⟩ : MethodName) = true := plainFor_of_name (by first | (simp [plainName, overriddenIn]; done) | decide +kernel)
set_option maxRecDepth 65536 in
set_option maxHeartbeats 40000000 in
theorem ar_cpb {Z : State} {a0 : Array Value} (hw : HW a0 Z) (b : Addr) (k : ClassId) (cap N : Nat) (zC zN : Int32) (g : Nat → Value) (h0 : Heap) (n0 : Nat) (sf0 : List Addr) (O : Old Z n0 h0) (B : Arf Z h0 b k .byte cap g) (YB : Exa Z h0 b "[B") (hC : zC.toInt = cap) (hN : zN.toInt = N) (hNc : N ≤ cap) (hNb : N ≤ 32) :
    MetW Z consts_1 sf0 (⟨"java/util/Arrays", "copyOfRangeByte", "([BII)[B"⟩ : MethodName) jdk_65_method_133_code 5 (some (.array .byte)) [] ({ frames := 1, cells := 1, slots := 32, locals := 18 } : Room) #[(.ref b), (.int (0 : Int32)), (.int zN)] h0 n0 (fun v h sf => ∃ r kr, v = some (.ref r) ∧ h0.size ≤ r ∧ Keep h0 h [] ∧ Arf Z h r kr .byte N g) := by
  refine k_body (hEW hw) (f := (fun m => mkF m 0 #[.val (.ref b), .val (.int (0 : Int32)), .val (.int zN), .unset, .unset] [])) pn_43 (fun m => by first | (simp [entryFrame, mkF, argsToLocals, Value.category, maxLocals]; done) | rfl) ?_
  intro Γ T G X
  have KP := Keep.refl h0 []
  show Go Γ n0 _ T (mkF Γ.m 0 #[.val (.ref b), .val (.int (0 : Int32)), .val (.int zN), .unset, .unset] [])
  refine k_iloadN G X d43_0 (pc' := 1) rfl rfl ?_
  refine k_iloadN G X d43_1 (pc' := 2) rfl rfl ?_
  refine k_callS G X (argsL := [(.int (0 : Int32)), (.int zN)]) (rest := []) rfl (w238 hw) (w239 hw) (w202 hw) (w240 hw) (by decide) (ar_chk hw zN h0 n0 _ (by omega)) d43_2 pd2 rfl (pc' := 5) rfl rfl (wd := 0) rfl (by decide) (by decide) (by decide) (by decide) (fun T h2 v sf2 X q => ?_)
  replace X := W.drop X
  obtain ⟨rfl, e2⟩ := q
  replace X := X.eq e2
  show Go Γ n0 _ T (mkF Γ.m 5 #[.val (.ref b), .val (.int (0 : Int32)), .val (.int zN), .unset, .unset] [])
  refine k_iloadN G X d43_5 (pc' := 6) rfl rfl ?_
  refine k_iloadN G X d43_6 (pc' := 7) rfl rfl ?_
  refine k_isub G X d43_7 (pc' := 8) rfl rfl ?_
  rw [show zN - (0 : Int32) = zN from Int32.sub_zero zN]
  refine k_istoreN G X d43_8 (pc' := 9) rfl (l' := #[.val (.ref b), .val (.int (0 : Int32)), .val (.int zN), .val (.int zN), .unset]) rfl ?_
  refine k_iloadN G X d43_9 (pc' := 10) rfl rfl ?_
  refine k_newP G X (aty := .byte) (n := N) (cap := 32) (w30 hw) d43_10 (pc' := 12) rfl hN hNb (by decide) (by decide) (by decide) (fun T h10 b10 k10 s_b10 E10 A_b10 X => ?_)
  have ne_b_b10 : b ≠ b10 := Nat.ne_of_lt (Nat.lt_of_lt_of_eq B.lt s_b10)
  have ge_b10 : n0 ≤ b10 := Nat.le_trans (Jvm.OwnK.Old_le O) (Nat.le_of_eq s_b10)
  have sz_b10 : h0.size ≤ b10 := Nat.le_trans KP.1 (Nat.le_of_eq s_b10)
  replace B := B.ext E10
  replace O := O.ext E10
  replace KP := KP.ext E10
  replace YB := YB.ext E10
  replace A_b10 : Arf Z h10 b10 k10 .byte N (fun _ => (.int (0 : Int32))) := A_b10
  refine k_astore G X d43_12 (pc' := 14) rfl rfl (l' := #[.val (.ref b), .val (.int (0 : Int32)), .val (.int zN), .val (.int zN), .val (.ref b10)]) rfl ?_
  refine k_aloadN G X d43_14 (pc' := 15) rfl rfl rfl ?_
  refine k_iloadN G X d43_15 (pc' := 16) rfl rfl ?_
  refine k_aload G X d43_16 (pc' := 18) rfl rfl rfl ?_
  refine k_iconst G X d43_18 (pc' := 19) rfl (z := (0 : Int32)) (by decide) ?_
  refine k_aloadN G X d43_19 (pc' := 20) rfl rfl rfl ?_
  refine k_alen G X (z := zC) B hC d43_20 (pc' := 21) rfl ?_
  refine k_iloadN G X d43_21 (pc' := 22) rfl rfl ?_
  refine k_isub G X d43_22 (pc' := 23) rfl rfl ?_
  rw [show zC - (0 : Int32) = zC from Int32.sub_zero zC]
  refine k_iloadN G X d43_23 (pc' := 24) rfl rfl ?_
  refine k_callS G X (argsL := [(.int zC), (.int zN)]) (rest := [(.int (0 : Int32)), (.ref b10), (.int (0 : Int32)), (.ref b)]) rfl (w204 hw) (w107 hw) (w16 hw) (w108 hw) (by decide) (m_min hw zC zN h10 n0 _) d43_24 pd6 rfl (pc' := 27) rfl rfl (wd := 4) rfl (by decide) (by decide) (by decide) (by decide) (fun T h24 v sf24 X q => ?_)
  replace X := W.drop X
  obtain ⟨r24, rfl, q1, q2, e24⟩ := q
  replace X := X.eq e24
  obtain rfl : zN = r24 := of_toInt (by omega)
  show Go Γ n0 _ T (mkF Γ.m 27 #[.val (.ref b), .val (.int (0 : Int32)), .val (.int zN), .val (.int zN), .val (.ref b10)] [(.int zN), (.int (0 : Int32)), (.ref b10), (.int (0 : Int32)), (.ref b)])
  refine k_copy G X (sp := 0) (dp := 0) (nn := N) B A_b10 rfl (w205 hw) (w185 hw) (w183 hw) (w184 hw) rfl rfl hN (by omega) (by omega) ge_b10 (List.mem_of_getElem? (i := 0) rfl) d43_27 (pc' := 30) rfl rfl (by decide) (wd := 0) rfl (by decide) (fun T h27 K27 A_b10' X => ?_)
  replace B := B.keep K27 (nin1 ne_b_b10)
  replace O := O.keep K27 (allS ge_b10 (all0))
  replace KP := KP.trans K27 (allS (Or.inr sz_b10) (all0))
  replace YB := YB.keep K27
  have A_b10 := A_b10'
  refine k_aload G X d43_30 (pc' := 32) rfl rfl rfl ?_
  refine k_reta G X d43_32 (t := (.array .byte)) rfl rfl rfl ?_ (by decide) (by decide)
  exact ⟨b10, k10, rfl, sz_b10, KP, A_b10.congr fun i hi => by rw [if_pos ⟨Nat.zero_le _, by omega⟩]; simp⟩
theorem pn_42 : plainFor (⟨"java/util/Arrays", "copyOfRange", "([BII)[B"⟩ : MethodName) = true := plainFor_of_name (by first | (simp [plainName, overriddenIn]; done) | decide +kernel)
set_option maxRecDepth 65536 in
set_option maxHeartbeats 40000000 in
theorem ar_cp {Z : State} {a0 : Array Value} (hw : HW a0 Z) (b : Addr) (k : ClassId) (cap N : Nat) (zC zN : Int32) (g : Nat → Value) (h0 : Heap) (n0 : Nat) (sf0 : List Addr) (O : Old Z n0 h0) (B : Arf Z h0 b k .byte cap g) (YB : Exa Z h0 b "[B") (hC : zC.toInt = cap) (hN : zN.toInt = N) (hNc : N ≤ cap) (hNb : N ≤ 32) :
    MetW Z consts_1 sf0 (⟨"java/util/Arrays", "copyOfRange", "([BII)[B"⟩ : MethodName) jdk_65_method_132_code 3 (some (.array .byte)) [] ({ frames := 2, cells := 1, slots := 32, locals := 34 } : Room) #[(.ref b), (.int (0 : Int32)), (.int zN)] h0 n0 (fun v h sf => ∃ r kr, v = some (.ref r) ∧ h0.size ≤ r ∧ Keep h0 h [] ∧ Arf Z h r kr .byte N g) := by
  refine k_body (hEW hw) (f := (fun m => mkF m 0 #[.val (.ref b), .val (.int (0 : Int32)), .val (.int zN)] [])) pn_42 (fun m => by first | (simp [entryFrame, mkF, argsToLocals, Value.category, maxLocals]; done) | rfl) ?_
  intro Γ T G X
  have KP := Keep.refl h0 []
  show Go Γ n0 _ T (mkF Γ.m 0 #[.val (.ref b), .val (.int (0 : Int32)), .val (.int zN)] [])
  refine k_iloadN G X d42_0 (pc' := 1) rfl rfl ?_
  refine k_if_ne G X d42_1 (pc' := 10) rfl (by decide) (pc'' := 4) rfl (fun c1 => (absurd c1 (by decide))) (fun c1 => ?_)
  refine k_iloadN G X d42_4 (pc' := 5) rfl rfl ?_
  refine k_aloadN G X d42_5 (pc' := 6) rfl rfl rfl ?_
  refine k_alen G X (z := zC) B hC d42_6 (pc' := 7) rfl ?_
  refine k_icmp_eq G X d42_7 (pc' := 17) rfl (by decide) (pc'' := 10) rfl (fun c7 => ?_) (fun c7 => ?_)
  · refine k_aloadN G X d42_17 (pc' := 18) rfl rfl rfl ?_
    refine k_clone G X (cap := 32) B YB (w343 hw) (w344 hw) (w348 hw) (w346 hw) (w347 hw) (w349 hw) d42_18 (pc' := 21) rfl rfl (by decide) (wd := 0) rfl (by decide) (by have := congrArg Int32.toInt c7; omega) (by decide) (by decide) (fun T h18 b18 s_b18 E18 A_b18 Y_b18 X => ?_)
    have ne_b_b18 : b ≠ b18 := Nat.ne_of_lt (Nat.lt_of_lt_of_eq B.lt s_b18)
    have ge_b18 : n0 ≤ b18 := Nat.le_trans (Jvm.OwnK.Old_le O) (Nat.le_of_eq s_b18)
    have sz_b18 : h0.size ≤ b18 := Nat.le_trans KP.1 (Nat.le_of_eq s_b18)
    replace B := B.ext E18
    replace O := O.ext E18
    replace KP := KP.ext E18
    replace YB := YB.ext E18
    refine k_castY G X (w350 hw) (Ins.self Y_b18) d42_21 (pc' := 24) rfl (fun T X => ?_)
    refine k_reta G X d42_24 (t := (.array .byte)) rfl rfl rfl ?_ (by decide) (by decide)
    obtain rfl : N = cap := by have := congrArg Int32.toInt c7; omega
    exact ⟨b18, k, rfl, sz_b18, KP, A_b18⟩
  · refine k_aloadN G X d42_10 (pc' := 11) rfl rfl rfl ?_
    refine k_iloadN G X d42_11 (pc' := 12) rfl rfl ?_
    refine k_iloadN G X d42_12 (pc' := 13) rfl rfl ?_
    refine k_callS G X (argsL := [(.ref b), (.int (0 : Int32)), (.int zN)]) (rest := []) rfl (w235 hw) (w236 hw) (w202 hw) (w237 hw) (by decide) (ar_cpb hw b k cap N zC zN g h0 n0 _ O B YB hC hN hNc hNb) d42_13 pd10 rfl (pc' := 16) rfl rfl (wd := 0) rfl (by decide) (by decide) (by decide) (by decide) (fun T h13 v sf13 X q => ?_)
    replace X := W.drop X
    obtain ⟨r, kr, rfl, sz_r, KQ, RA⟩ := q
    show Go Γ n0 _ T (mkF Γ.m 16 #[.val (.ref b), .val (.int (0 : Int32)), .val (.int zN)] [(.ref r)])
    refine k_reta G X d42_16 (t := (.array .byte)) rfl rfl rfl ?_ (by decide) (by decide)
    exact ⟨r, kr, rfl, sz_r, KQ, RA⟩
theorem pn_41 : plainFor (⟨"java/lang/AbstractStringBuilder", "getValue", "()[B"⟩ : MethodName) = true := plainFor_of_name (by first | (simp [plainName, overriddenIn]; done) | decide +kernel)
set_option maxRecDepth 65536 in
set_option maxHeartbeats 40000000 in
theorem sb_val {Z : State} {a0 : Array Value} (hw : HW a0 Z) (o b : Addr) (h0 : Heap) (n0 : Nat) (sf0 : List Addr) (FV : Fld Z h0 o "java/lang/AbstractStringBuilder" "value" "[B" (.ref b)) :
    MetW Z consts_1 sf0 (⟨"java/lang/AbstractStringBuilder", "getValue", "()[B"⟩ : MethodName) jdk_68_method_64_code 1 (some (.array .byte)) [] ({ frames := 0, cells := 0, slots := 0, locals := 0 } : Room) #[(.ref o)] h0 n0 (fun v h sf => v = some (.ref b) ∧ h = h0) := by
  refine k_body (hEW hw) (f := (fun m => mkF m 0 #[.val (.ref o)] [])) pn_41 (fun m => by first | (simp [entryFrame, mkF, argsToLocals, Value.category, maxLocals]; done) | rfl) ?_
  intro Γ T G X
  show Go Γ n0 _ T (mkF Γ.m 0 #[.val (.ref o)] [])
  refine k_aloadN G X d41_0 (pc' := 1) rfl rfl rfl ?_
  refine k_getF G X (host := "") (Or.inl (w31 hw)) Via.refl FV d41_1 (pc' := 4) rfl (fun T X => ?_)
  refine k_reta G X d41_4 (t := (.array .byte)) rfl rfl rfl ?_ (by decide) (by decide)
  exact ⟨rfl, rfl⟩
theorem pn_9 : plainFor (⟨"java/lang/AbstractStringBuilder", "length", "()I"⟩ : MethodName) = true := plainFor_of_name (by first | (simp [plainName, overriddenIn]; done) | decide +kernel)
set_option maxRecDepth 65536 in
set_option maxHeartbeats 40000000 in
theorem sb_len2 {Z : State} {a0 : Array Value} (hw : HW a0 Z) (o : Addr) (zN : Int32) (h0 : Heap) (n0 : Nat) (sf0 : List Addr) (FN : Fld Z h0 o "java/lang/AbstractStringBuilder" "count" "I" (.int zN)) :
    MetW Z consts_1 sf0 (⟨"java/lang/AbstractStringBuilder", "length", "()I"⟩ : MethodName) jdk_68_method_6_code 1 (some .int) [] ({ frames := 0, cells := 0, slots := 0, locals := 0 } : Room) #[(.ref o)] h0 n0 (fun v h sf => v = some (.int zN) ∧ h = h0) := by
  refine k_body (hEW hw) (f := (fun m => mkF m 0 #[.val (.ref o)] [])) pn_9 (fun m => by first | (simp [entryFrame, mkF, argsToLocals, Value.category, maxLocals]; done) | rfl) ?_
  intro Γ T G X
  show Go Γ n0 _ T (mkF Γ.m 0 #[.val (.ref o)] [])
  refine k_aloadN G X d9_0 (pc' := 1) rfl rfl rfl ?_
  refine k_getF G X (host := "") (Or.inl (w57 hw)) Via.refl FN d9_1 (pc' := 4) rfl (fun T X => ?_)
  refine k_reti G X d9_4 rfl ?_ (by decide) (by decide)
  exact ⟨rfl, rfl⟩
theorem pn_8 : plainFor (⟨"java/lang/StringBuilder", "length", "()I"⟩ : MethodName) = true := plainFor_of_name (by first | (simp [plainName, overriddenIn]; done) | decide +kernel)
set_option maxRecDepth 65536 in
set_option maxHeartbeats 40000000 in
theorem sb_len {Z : State} {a0 : Array Value} (hw : HW a0 Z) (o : Addr) (zN : Int32) (h0 : Heap) (n0 : Nat) (sf0 : List Addr) (E : Exa Z h0 o "java/lang/StringBuilder") (FN : Fld Z h0 o "java/lang/AbstractStringBuilder" "count" "I" (.int zN)) :
    MetW Z consts_1 sf0 (⟨"java/lang/StringBuilder", "length", "()I"⟩ : MethodName) jdk_67_method_93_code 1 (some .int) [] ({ frames := 1, cells := 0, slots := 0, locals := 12 } : Room) #[(.ref o)] h0 n0 (fun v h sf => v = some (.int zN) ∧ h = h0) := by
  refine k_body (hEW hw) (f := (fun m => mkF m 0 #[.val (.ref o)] [])) pn_8 (fun m => by first | (simp [entryFrame, mkF, argsToLocals, Value.category, maxLocals]; done) | rfl) ?_
  intro Γ T G X
  show Go Γ n0 _ T (mkF Γ.m 0 #[.val (.ref o)] [])
  refine k_aloadN G X d8_0 (pc' := 1) rfl rfl rfl ?_
  refine k_callU G X (argsL := []) (rest := []) rfl (Ins.self E) (w52 hw) (smD (w53 hw) ((nf_sib (y := (⟨"java/lang/AbstractStringBuilder", "length", "()I"⟩ : MethodName)) (w71 hw) (w69 hw) rfl) Z (State.Warmed39.refl Z)) (by decide)) (w53 hw) (w54 hw) (by decide) (w25 hw) (w56 hw) (sb_len2 hw o zN h0 n0 _ FN) d8_1 pd11 rfl (pc' := 4) rfl rfl (wd := 0) rfl (by decide) (by decide) (by decide) (by decide) (fun T h1 v sf1 X q => ?_)
  replace X := W.drop X
  obtain ⟨rfl, e1⟩ := q
  replace X := X.eq e1
  show Go Γ n0 _ T (mkF Γ.m 4 #[.val (.ref o)] [(.int zN)])
  refine k_reti G X d8_4 rfl ?_ (by decide) (by decide)
  exact ⟨rfl, rfl⟩
theorem pn_13 : plainFor (⟨"java/lang/AbstractStringBuilder", "isLatin1", "()Z"⟩ : MethodName) = true := plainFor_of_name (by first | (simp [plainName, overriddenIn]; done) | decide +kernel)
set_option maxRecDepth 65536 in
set_option maxHeartbeats 40000000 in
theorem sb_lat {Z : State} {a0 : Array Value} (hw : HW a0 Z) (o : Addr) (cs : Int32) (h0 : Heap) (n0 : Nat) (sf0 : List Addr) (FC : Fld Z h0 o "java/lang/AbstractStringBuilder" "coder" "B" (.int (0 : Int32))) (S_CS : Sta Z h0 "java/lang/String" "COMPACT_STRINGS" "Z" (.int cs)) (hcs : cs ≠ 0) :
    MetW Z consts_1 sf0 (⟨"java/lang/AbstractStringBuilder", "isLatin1", "()Z"⟩ : MethodName) jdk_68_method_68_code 1 (some .boolean) [] ({ frames := 0, cells := 0, slots := 0, locals := 0 } : Room) #[(.ref o)] h0 n0 (fun v h sf => v = some (.int 1) ∧ h = h0) := by
  refine k_body (hEW hw) (f := (fun m => mkF m 0 #[.val (.ref o)] [])) pn_13 (fun m => by first | (simp [entryFrame, mkF, argsToLocals, Value.category, maxLocals]; done) | rfl) ?_
  intro Γ T G X
  show Go Γ n0 _ T (mkF Γ.m 0 #[.val (.ref o)] [])
  refine k_getS G X (host := "") (Or.inl (w28 hw)) Via.refl S_CS d13_0 (pc' := 3) rfl (fun T X => ?_)
  refine k_if_eq G X d13_3 (pc' := 17) rfl (by decide) (pc'' := 6) rfl (fun c3 => (absurd c3 hcs)) (fun c3 => ?_)
  refine k_aloadN G X d13_6 (pc' := 7) rfl rfl rfl ?_
  refine k_getF G X (host := "") (Or.inl (w33 hw)) Via.refl FC d13_7 (pc' := 10) rfl (fun T X => ?_)
  refine k_if_ne G X d13_10 (pc' := 17) rfl (by decide) (pc'' := 13) rfl (fun c10 => (absurd c10 (by decide))) (fun c10 => ?_)
  refine k_iconst G X d13_13 (pc' := 14) rfl (z := (1 : Int32)) (by decide) ?_
  refine k_goto G X d13_14 (by decide) (pc' := 18) rfl ?_
  refine k_retb G X d13_18 (t := .boolean) rfl (by simp) rfl ?_ (by decide) (by decide)
  exact ⟨rfl, rfl⟩
theorem pn_40 : plainFor (⟨"java/lang/String", "<init>", "(Ljava/lang/AbstractStringBuilder;Ljava/lang/Void;)V"⟩ : MethodName) = true := plainFor_of_name (by first | (simp [plainName, overriddenIn]; done) | decide +kernel)
set_option maxRecDepth 65536 in
set_option maxHeartbeats 40000000 in
theorem st_sb3 {Z : State} {a0 : Array Value} (hw : HW a0 Z) (s o b : Addr) (k : ClassId) (cap N : Nat) (zC zN cs : Int32) (g : Nat → Value) (h0 : Heap) (n0 : Nat) (sf0 : List Addr) (gm_s : n0 ≤ s ∧ s ∈ sf0) (O : Old Z n0 h0) (SE : Exa Z h0 s "java/lang/String") (SV : Fld Z h0 s "java/lang/String" "value" "[B" .null) (SC : Fld Z h0 s "java/lang/String" "coder" "B" (.int (0 : Int32))) (E : Exa Z h0 o "java/lang/StringBuilder") (FV : Fld Z h0 o "java/lang/AbstractStringBuilder" "value" "[B" (.ref b)) (FC : Fld Z h0 o "java/lang/AbstractStringBuilder" "coder" "B" (.int (0 : Int32))) (FN : Fld Z h0 o "java/lang/AbstractStringBuilder" "count" "I" (.int zN)) (B : Arf Z h0 b k .byte cap g) (YB : Exa Z h0 b "[B") (hC : zC.toInt = cap) (hN : zN.toInt = N) (hNc : N ≤ cap) (hNb : N ≤ 32) (S_CS : Sta Z h0 "java/lang/String" "COMPACT_STRINGS" "Z" (.int cs)) (hcs : cs ≠ 0) (ne_o_s : o ≠ s) (ne_b_s : b ≠ s) :
    MetW Z consts_1 sf0 (⟨"java/lang/String", "<init>", "(Ljava/lang/AbstractStringBuilder;Ljava/lang/Void;)V"⟩ : MethodName) jdk_42_method_150_code 5 none [] ({ frames := 3, cells := 1, slots := 32, locals := 49 } : Room) #[(.ref s), (.ref o), .null] h0 n0 (fun v h sf => v = none ∧ Keep h0 h [s] ∧ ∃ r kr, h0.size ≤ r ∧ Exa Z h s "java/lang/String" ∧ Fld Z h s "java/lang/String" "coder" "B" (.int 0) ∧ Fld Z h s "java/lang/String" "value" "[B" (.ref r) ∧ Arf Z h r kr .byte N g) := by
  refine k_body (hEW hw) (f := (fun m => mkF m 0 #[.val (.ref s), .val (.ref o), .val .null, .unset, .unset] [])) pn_40 (fun m => by first | (simp [entryFrame, mkF, argsToLocals, Value.category, maxLocals]; done) | rfl) ?_
  intro Γ T G X
  have ge_s := gm_s.1
  have KP := Keep.refl h0 [s]
  show Go Γ n0 _ T (mkF Γ.m 0 #[.val (.ref s), .val (.ref o), .val .null, .unset, .unset] [])
  refine k_aloadN G X d40_0 (pc' := 1) rfl rfl rfl ?_
  refine k_initO G X (w223 hw) (w8 hw) (w9 hw) d40_1 (pc' := 4) rfl rfl (by decide) (wd := 0) rfl (by decide) (fun T X => ?_)
  refine k_aloadN G X d40_4 (pc' := 5) rfl rfl rfl ?_
  refine k_callV G X (argsL := []) (rest := []) rfl E (w224 hw) (w225 hw) (nf_sel (w227 hw)) (w227 hw) (w226 hw) (w25 hw) (w228 hw) (by decide) (sb_val hw o b h0 n0 _ FV) d40_5 pd12 rfl (pc' := 8) rfl rfl (wd := 0) rfl (by decide) (by decide) (by decide) (by decide) (fun T h5 v sf5 X q => ?_)
  replace X := W.drop X
  obtain ⟨rfl, e5⟩ := q
  replace X := X.eq e5
  show Go Γ n0 _ T (mkF Γ.m 8 #[.val (.ref s), .val (.ref o), .val .null, .unset, .unset] [(.ref b)])
  refine k_astoreN G X d40_8 (pc' := 9) rfl rfl (l' := #[.val (.ref s), .val (.ref o), .val .null, .val (.ref b), .unset]) rfl ?_
  refine k_aloadN G X d40_9 (pc' := 10) rfl rfl rfl ?_
  refine k_callV G X (argsL := []) (rest := []) rfl E (w229 hw) (w55 hw) (nf_sib (y := (⟨"java/lang/AbstractStringBuilder", "length", "()I"⟩ : MethodName)) (w71 hw) (w69 hw) rfl) (w230 hw) (w49 hw) (w12 hw) (w51 hw) (by decide) (sb_len hw o zN h0 n0 _ E FN) d40_10 pd11 rfl (pc' := 13) rfl rfl (wd := 0) rfl (by decide) (by decide) (by decide) (by decide) (fun T h10 v sf10 X q => ?_)
  replace X := W.drop X
  obtain ⟨rfl, e10⟩ := q
  replace X := X.eq e10
  show Go Γ n0 _ T (mkF Γ.m 13 #[.val (.ref s), .val (.ref o), .val .null, .val (.ref b), .unset] [(.int zN)])
  refine k_istore G X d40_13 (pc' := 15) rfl (l' := #[.val (.ref s), .val (.ref o), .val .null, .val (.ref b), .val (.int zN)]) rfl ?_
  refine k_aloadN G X d40_15 (pc' := 16) rfl rfl rfl ?_
  refine k_callV G X (argsL := []) (rest := []) rfl E (w231 hw) (w74 hw) (nf_sel (w76 hw)) (w76 hw) (w75 hw) (w25 hw) (w77 hw) (by decide) (sb_lat hw o cs h0 n0 _ FC S_CS hcs) d40_16 pd3 rfl (pc' := 19) rfl rfl (wd := 0) rfl (by decide) (by decide) (by decide) (by decide) (fun T h16 v sf16 X q => ?_)
  replace X := W.drop X
  obtain ⟨rfl, e16⟩ := q
  replace X := X.eq e16
  show Go Γ n0 _ T (mkF Γ.m 19 #[.val (.ref s), .val (.ref o), .val .null, .val (.ref b), .val (.int zN)] [(.int (1 : Int32))])
  refine k_if_eq G X d40_19 (pc' := 41) rfl (by decide) (pc'' := 22) rfl (fun c19 => (absurd c19 (by decide))) (fun c19 => ?_)
  refine k_aloadN G X d40_22 (pc' := 23) rfl rfl rfl ?_
  refine k_iconst G X d40_23 (pc' := 24) rfl (z := (0 : Int32)) (by decide) ?_
  refine k_putFN G X (w133 hw) Via.refl SC SE (Or.inr ⟨(w85 hw), rfl, rfl⟩) (w83 hw) (ty := .byte) (v' := (.int (0 : Int32))) (by decide) rfl rfl ge_s (List.mem_append_right [] gm_s.2) d40_24 (pc' := 27) rfl (fun T h24 W24 X => ?_)
  replace SE := SE.wr W24
  replace SV := SV.other W24 (Or.inr (slot_ne (Or.inr (w84 hw)) (Or.inr (w85 hw)) (by decide) (t := (.array .byte)) (t' := .byte) (by decide) (by decide)))
  replace SC := SC.same W24
  replace E := E.wr W24
  replace FV := FV.other W24 (Or.inl ne_o_s)
  replace FC := FC.other W24 (Or.inl ne_o_s)
  replace FN := FN.other W24 (Or.inl ne_o_s)
  replace B := B.other W24 ne_b_s
  replace O := O.wr W24 ge_s
  replace KP := KP.wr W24 (Or.inl (List.mem_of_getElem? (i := 0) rfl))
  replace S_CS := S_CS.wr W24
  replace YB := YB.wr W24
  refine k_aloadN G X d40_27 (pc' := 28) rfl rfl rfl ?_
  refine k_aloadN G X d40_28 (pc' := 29) rfl rfl rfl ?_
  refine k_iconst G X d40_29 (pc' := 30) rfl (z := (0 : Int32)) (by decide) ?_
  refine k_iload G X d40_30 (pc' := 32) rfl rfl ?_
  refine k_callS G X (argsL := [(.ref b), (.int (0 : Int32)), (.int zN)]) (rest := [(.ref s)]) rfl (w232 hw) (w233 hw) (w202 hw) (w234 hw) (by decide) (ar_cp hw b k cap N zC zN g h24 n0 _ O B YB hC hN hNc hNb) d40_32 pd10 rfl (pc' := 35) rfl rfl (wd := 1) rfl (by decide) (by decide) (by decide) (by decide) (fun T h32 v sf32 X q => ?_)
  replace X := W.drop X
  obtain ⟨r, kr, rfl, sz_r', K32, RA⟩ := q
  have sz_r := Nat.le_trans KP.1 sz_r'
  have ne_s_r : s ≠ r := Nat.ne_of_lt (Nat.lt_of_lt_of_le SE.lt sz_r')
  replace S_CS := Jvm.OwnK.Sta_keep S_CS K32
  replace SE := SE.keep K32
  replace SV := SV.keep K32 nin0
  replace SC := SC.keep K32 nin0
  replace E := E.keep K32
  replace FV := FV.keep K32 nin0
  replace FC := FC.keep K32 nin0
  replace FN := FN.keep K32 nin0
  replace B := B.keep K32 nin0
  replace O := O.keep K32 (all0)
  replace KP := KP.trans K32 (all0)
  replace YB := YB.keep K32
  show Go Γ n0 _ T (mkF Γ.m 35 #[.val (.ref s), .val (.ref o), .val .null, .val (.ref b), .val (.int zN)] [(.ref r), (.ref s)])
  refine k_putF G X (host := "") (Or.inl (w126 hw)) Via.refl SV SE (Or.inr ⟨(w84 hw), rfl, rfl⟩) (w83 hw) (ty := (.array .byte)) (by decide) rfl rfl ge_s (List.mem_append_right [] gm_s.2) d40_35 (pc' := 38) rfl (fun T h35 W35 X => ?_)
  replace SE := SE.wr W35
  replace SV := SV.same W35
  replace SC := SC.other W35 (Or.inr (slot_ne (Or.inr (w85 hw)) (Or.inr (w84 hw)) (by decide) (t := .byte) (t' := (.array .byte)) (by decide) (by decide)))
  replace E := E.wr W35
  replace FV := FV.other W35 (Or.inl ne_o_s)
  replace FC := FC.other W35 (Or.inl ne_o_s)
  replace FN := FN.other W35 (Or.inl ne_o_s)
  replace B := B.other W35 ne_b_s
  replace O := O.wr W35 ge_s
  replace KP := KP.wr W35 (Or.inl (List.mem_of_getElem? (i := 0) rfl))
  replace S_CS := S_CS.wr W35
  replace YB := YB.wr W35
  replace RA := RA.other W35 (Ne.symm ne_s_r)
  refine k_goto G X d40_38 (by decide) (pc' := 97) rfl ?_
  refine k_retv G X d40_97 rfl ?_ (by decide) (by decide)
  exact ⟨rfl, KP, r, kr, sz_r, SE, SC, SV, RA⟩
theorem pn_39 : plainFor (⟨"java/lang/String", "<init>", "(Ljava/lang/StringBuilder;)V"⟩ : MethodName) = true := plainFor_of_name (by first | (simp [plainName, overriddenIn]; done) | decide +kernel)
set_option maxRecDepth 65536 in
set_option maxHeartbeats 40000000 in
theorem st_sb2 {Z : State} {a0 : Array Value} (hw : HW a0 Z) (s o b : Addr) (k : ClassId) (cap N : Nat) (zC zN cs : Int32) (g : Nat → Value) (h0 : Heap) (n0 : Nat) (sf0 : List Addr) (gm_s : n0 ≤ s ∧ s ∈ sf0) (O : Old Z n0 h0) (SE : Exa Z h0 s "java/lang/String") (SV : Fld Z h0 s "java/lang/String" "value" "[B" .null) (SC : Fld Z h0 s "java/lang/String" "coder" "B" (.int (0 : Int32))) (E : Exa Z h0 o "java/lang/StringBuilder") (FV : Fld Z h0 o "java/lang/AbstractStringBuilder" "value" "[B" (.ref b)) (FC : Fld Z h0 o "java/lang/AbstractStringBuilder" "coder" "B" (.int (0 : Int32))) (FN : Fld Z h0 o "java/lang/AbstractStringBuilder" "count" "I" (.int zN)) (B : Arf Z h0 b k .byte cap g) (YB : Exa Z h0 b "[B") (hC : zC.toInt = cap) (hN : zN.toInt = N) (hNc : N ≤ cap) (hNb : N ≤ 32) (S_CS : Sta Z h0 "java/lang/String" "COMPACT_STRINGS" "Z" (.int cs)) (hcs : cs ≠ 0) (ne_o_s : o ≠ s) (ne_b_s : b ≠ s) :
    MetW Z consts_1 sf0 (⟨"java/lang/String", "<init>", "(Ljava/lang/StringBuilder;)V"⟩ : MethodName) jdk_42_method_53_code 2 none [] ({ frames := 4, cells := 1, slots := 32, locals := 65 } : Room) #[(.ref s), (.ref o)] h0 n0 (fun v h sf => v = none ∧ Keep h0 h [s] ∧ ∃ r kr, h0.size ≤ r ∧ Exa Z h s "java/lang/String" ∧ Fld Z h s "java/lang/String" "coder" "B" (.int 0) ∧ Fld Z h s "java/lang/String" "value" "[B" (.ref r) ∧ Arf Z h r kr .byte N g) := by
  refine k_body (hEW hw) (f := (fun m => mkF m 0 #[.val (.ref s), .val (.ref o)] [])) pn_39 (fun m => by first | (simp [entryFrame, mkF, argsToLocals, Value.category, maxLocals]; done) | rfl) ?_
  intro Γ T G X
  have ge_s := gm_s.1
  have KP := Keep.refl h0 [s]
  show Go Γ n0 _ T (mkF Γ.m 0 #[.val (.ref s), .val (.ref o)] [])
  refine k_aloadN G X d39_0 (pc' := 1) rfl rfl rfl ?_
  refine k_aloadN G X d39_1 (pc' := 2) rfl rfl rfl ?_
  refine k_anull G X d39_2 (pc' := 3) rfl ?_
  refine k_callI G X (argsL := [(.ref o), .null]) (rest := []) rfl rfl (w220 hw) (w221 hw) (w29 hw) (w222 hw) (by decide) (st_sb3 hw s o b k cap N zC zN cs g h0 n0 _ ⟨ge_s, (List.mem_append_right [] gm_s.2)⟩ O SE SV SC E FV FC FN B YB hC hN hNc hNb S_CS hcs ne_o_s ne_b_s) d39_3 pd13 rfl (pc' := 6) rfl rfl (wd := 0) rfl (by decide) (by decide) (by decide) (by decide) (fun T h3 v sf3 X q => ?_)
  replace X := W.drop X
  obtain ⟨rfl, q⟩ := q
  show Go Γ n0 _ T (mkF Γ.m 6 #[.val (.ref s), .val (.ref o)] [])
  refine k_retv G X d39_6 rfl ?_ (by decide) (by decide)
  exact ⟨rfl, q⟩
theorem pn_38 : plainFor (⟨"java/lang/StringBuilder", "toString", "()Ljava/lang/String;"⟩ : MethodName) = true := plainFor_of_name (by first | (simp [plainName, overriddenIn]; done) | decide +kernel)
set_option maxRecDepth 65536 in
set_option maxHeartbeats 40000000 in
theorem sb_str {Z : State} {a0 : Array Value} (hw : HW a0 Z) (o b : Addr) (k : ClassId) (cap N : Nat) (zC zN cs : Int32) (g : Nat → Value) (h0 : Heap) (n0 : Nat) (sf0 : List Addr) (O : Old Z n0 h0) (E : Exa Z h0 o "java/lang/StringBuilder") (FV : Fld Z h0 o "java/lang/AbstractStringBuilder" "value" "[B" (.ref b)) (FC : Fld Z h0 o "java/lang/AbstractStringBuilder" "coder" "B" (.int (0 : Int32))) (FN : Fld Z h0 o "java/lang/AbstractStringBuilder" "count" "I" (.int zN)) (B : Arf Z h0 b k .byte cap g) (YB : Exa Z h0 b "[B") (hC : zC.toInt = cap) (hN : zN.toInt = N) (hNc : N ≤ cap) (hNb : N ≤ 32) (S_CS : Sta Z h0 "java/lang/String" "COMPACT_STRINGS" "Z" (.int cs)) (hcs : cs ≠ 0) :
    MetW Z consts_1 sf0 (⟨"java/lang/StringBuilder", "toString", "()Ljava/lang/String;"⟩ : MethodName) jdk_67_method_42_code 1 (some (.object "java/lang/String")) [] ({ frames := 5, cells := 2, slots := 36, locals := 79 } : Room) #[(.ref o)] h0 n0 (fun v h sf => ∃ s r kr, v = some (.ref s) ∧ h0.size ≤ s ∧ h0.size ≤ r ∧ Keep h0 h [] ∧ Exa Z h s "java/lang/String" ∧ Fld Z h s "java/lang/String" "coder" "B" (.int 0) ∧ Fld Z h s "java/lang/String" "value" "[B" (.ref r) ∧ Arf Z h r kr .byte N g ∧ s ∈ sf) := by
  refine k_body (hEW hw) (f := (fun m => mkF m 0 #[.val (.ref o)] [])) pn_38 (fun m => by first | (simp [entryFrame, mkF, argsToLocals, Value.category, maxLocals]; done) | rfl) ?_
  intro Γ T G X
  have KP := Keep.refl h0 []
  show Go Γ n0 _ T (mkF Γ.m 0 #[.val (.ref o)] [])
  refine k_new G X (w216 hw) (w83 hw) (w29 hw) d38_0 (pc' := 3) rfl (by decide) (by decide) (fun T hA0 b0 s_b0 E0 X_b0 D0 X => ?_)
  have ne_o_b0 : o ≠ b0 := Nat.ne_of_lt (Nat.lt_of_lt_of_eq E.lt s_b0)
  have ne_b_b0 : b ≠ b0 := Nat.ne_of_lt (Nat.lt_of_lt_of_eq B.lt s_b0)
  have ge_b0 : n0 ≤ b0 := Nat.le_trans (Jvm.OwnK.Old_le O) (Nat.le_of_eq s_b0)
  have sz_b0 : h0.size ≤ b0 := Nat.le_trans KP.1 (Nat.le_of_eq s_b0)
  replace E := E.ext E0
  replace FV := FV.ext E0
  replace FC := FC.ext E0
  replace FN := FN.ext E0
  replace B := B.ext E0
  replace O := O.ext E0
  replace KP := KP.ext E0
  replace S_CS := S_CS.ext E0
  replace YB := YB.ext E0
  have F_b0_value : Fld Z hA0 b0 "java/lang/String" "value" "[B" .null := D0 (Or.inr (w84 hw)) (ty := (.array .byte)) (by decide)
  have F_b0_coder : Fld Z hA0 b0 "java/lang/String" "coder" "B" (.int (0 : Int32)) := D0 (Or.inr (w85 hw)) (ty := .byte) (by decide)
  refine k_dup G X d38_3 (pc' := 4) rfl rfl ?_
  refine k_aloadN G X d38_4 (pc' := 5) rfl rfl rfl ?_
  refine k_callI G X (argsL := [(.ref o)]) (rest := [(.ref b0)]) rfl rfl (w217 hw) (w218 hw) (w29 hw) (w219 hw) (by decide) (st_sb2 hw b0 o b k cap N zC zN cs g hA0 n0 _ ⟨ge_b0, (List.mem_of_getElem? (i := 0) rfl)⟩ O X_b0 F_b0_value F_b0_coder E FV FC FN B YB hC hN hNc hNb S_CS hcs ne_o_b0 ne_b_b0) d38_5 pd14 rfl (pc' := 8) rfl rfl (wd := 1) rfl (by decide) (by decide) (by decide) (by decide) (fun T h5 v sf5 X q => ?_)
  replace X := W.drop X
  obtain ⟨rfl, K5, r, kr, sz_r', RE, RC, RV, RA⟩ := q
  have sz_r := Nat.le_trans KP.1 sz_r'
  replace S_CS := Sta_keepL S_CS K5 (allS (Pln_exa X_b0) (all0))
  replace E := E.keep K5
  replace FV := FV.keep K5 (nin1 ne_o_b0)
  replace FC := FC.keep K5 (nin1 ne_o_b0)
  replace FN := FN.keep K5 (nin1 ne_o_b0)
  replace B := B.keep K5 (nin1 ne_b_b0)
  replace O := O.keep K5 (allS ge_b0 (all0))
  replace KP := KP.trans K5 (allS (Or.inr sz_b0) (all0))
  replace YB := YB.keep K5
  replace X_b0 := X_b0.keep K5
  show Go Γ n0 _ T (mkF Γ.m 8 #[.val (.ref o)] [(.ref b0)])
  refine k_reta G X d38_8 (t := (.object "java/lang/String")) rfl rfl rfl ?_ (by decide) (by decide)
  exact ⟨b0, r, kr, rfl, sz_b0, sz_r, KP, RE, RC, RV, RA, (List.mem_of_getElem? (i := 0) rfl)⟩
theorem pn_14 : plainFor (⟨"java/lang/StringLatin1", "canEncode", "(C)Z"⟩ : MethodName) = true := plainFor_of_name (by first | (simp [plainName, overriddenIn]; done) | decide +kernel)
set_option maxRecDepth 65536 in
set_option maxHeartbeats 40000000 in
theorem can_c {Z : State} {a0 : Array Value} (hw : HW a0 Z) (ch : Int32) (h0 : Heap) (n0 : Nat) (sf0 : List Addr) (hc0 : 0 ≤ ch.toInt) (hc1 : ch.toInt ≤ 127) :
    MetW Z consts_1 sf0 (⟨"java/lang/StringLatin1", "canEncode", "(C)Z"⟩ : MethodName) jdk_43_method_3_code 1 (some .boolean) [] ({ frames := 0, cells := 0, slots := 0, locals := 0 } : Room) #[(.int ch)] h0 n0 (fun v h sf => v = some (.int 1) ∧ h = h0) := by
  refine k_body (hEW hw) (f := (fun m => mkF m 0 #[.val (.int ch)] [])) pn_14 (fun m => by first | (simp [entryFrame, mkF, argsToLocals, Value.category, maxLocals]; done) | rfl) ?_
  intro Γ T G X
  show Go Γ n0 _ T (mkF Γ.m 0 #[.val (.int ch)] [])
  refine k_iloadN G X d14_0 (pc' := 1) rfl rfl ?_
  refine k_sipush G X d14_1 (pc' := 4) rfl (z := (255 : Int32)) (by decide) ?_
  refine k_icmp_gt G X d14_4 (pc' := 11) rfl (by decide) (pc'' := 7) rfl (fun c4 => (absurd c4 (by rw [show (255 : Int32).toInt = 255 from rfl]; omega))) (fun c4 => ?_)
  refine k_iconst G X d14_7 (pc' := 8) rfl (z := (1 : Int32)) (by decide) ?_
  refine k_goto G X d14_8 (by decide) (pc' := 12) rfl ?_
  refine k_retb G X d14_12 (t := .boolean) rfl (by simp) rfl ?_ (by decide) (by decide)
  exact ⟨rfl, rfl⟩
theorem pn_11 : plainFor (⟨"java/lang/AbstractStringBuilder", "append", "(C)Ljava/lang/AbstractStringBuilder;"⟩ : MethodName) = true := plainFor_of_name (by first | (simp [plainName, overriddenIn]; done) | decide +kernel)
set_option maxRecDepth 65536 in
set_option maxHeartbeats 40000000 in
theorem sb_ac1 {Z : State} {a0 : Array Value} (hw : HW a0 Z) (o b : Addr) (k : ClassId) (cap : Nat) (L : List Int32) (cs : Int32) (ch : Int32) (h0 : Heap) (n0 : Nat) (sf0 : List Addr) (gm_o : n0 ≤ o ∧ o ∈ sf0) (gm_b : n0 ≤ b ∧ b ∈ sf0) (O : Old Z n0 h0) (BL : Bld Z h0 o b k cap L) (S_CS : Sta Z h0 "java/lang/String" "COMPACT_STRINGS" "Z" (.int cs)) (hcs : cs ≠ 0) (hc0 : 0 ≤ ch.toInt) (hc1 : ch.toInt ≤ 127) (hL : L.length + 1 ≤ 32) :
    MetW Z consts_1 sf0 (⟨"java/lang/AbstractStringBuilder", "append", "(C)Ljava/lang/AbstractStringBuilder;"⟩ : MethodName) jdk_68_method_31_code 2 (some (.object "java/lang/AbstractStringBuilder")) [] ({ frames := 4, cells := 1, slots := 64, locals := 62 } : Room) #[(.ref o), (.int ch)] h0 n0 (fun v h sf => v = some (.ref o) ∧ Keep h0 h [o, b] ∧ ∃ u ku cu, Bld Z h o u ku cu (L ++ [ch]) ∧ (u = b ∨ h0.size ≤ u) ∧ n0 ≤ u ∧ u ∈ sf) := by
  refine k_body (hEW hw) (f := (fun m => mkF m 0 #[.val (.ref o), .val (.int ch)] [])) pn_11 (fun m => by first | (simp [entryFrame, mkF, argsToLocals, Value.category, maxLocals]; done) | rfl) ?_
  intro Γ T G X
  have ge_o := gm_o.1
  have ge_b := gm_b.1
  obtain ⟨E, YB, FV, FC, ⟨zN, hN, FN⟩, ⟨f, B, hf⟩, hcap⟩ := id BL
  have ne_b_o : b ≠ o := BL.ne
  obtain ⟨zC, hC⟩ : ∃ z : Int32, z.toInt = cap := ⟨cap.toInt32, len_toInt B.size_lt⟩
  have e1 : (1 : Int32).toInt = 1 := rfl
  have KP := Keep.refl h0 [o, b]
  have hNz : (zN + (1 : Int32)).toInt = (L.length + 1 : Nat) := by rw [iadd_toInt (by omega) (by omega)]; omega
  show Go Γ n0 _ T (mkF Γ.m 0 #[.val (.ref o), .val (.int ch)] [])
  refine k_aloadN G X d11_0 (pc' := 1) rfl rfl rfl ?_
  refine k_aloadN G X d11_1 (pc' := 2) rfl rfl rfl ?_
  refine k_getF G X (host := "") (Or.inl (w57 hw)) Via.refl FN d11_2 (pc' := 5) rfl (fun T X => ?_)
  refine k_iconst G X d11_5 (pc' := 6) rfl (z := (1 : Int32)) (by decide) ?_
  refine k_iadd G X d11_6 (pc' := 7) rfl rfl ?_
  refine k_callP G X (argsL := [(.int (zN + (1 : Int32)))]) (rest := []) rfl E (w68 hw) (w69 hw) (selQ (w71 hw) (w70 hw) (w69 hw) (by decide)) (w70 hw) (w25 hw) (w72 hw) (by decide) (sb_ens hw o b k cap L cs (zN + (1 : Int32)) h0 n0 _ ⟨ge_o, (List.mem_append_right [] gm_o.2)⟩ ⟨ge_b, (List.mem_append_right [] gm_b.2)⟩ O BL S_CS hcs (by rw [hNz]; omega) (by rw [hNz]; omega) (by rw [hNz]; omega)) d11_7 pd15 rfl (pc' := 10) rfl rfl (wd := 0) rfl (by decide) (by decide) (by decide) (by decide) (fun T h7 v sf7 X q => ?_)
  obtain ⟨rfl, K7, u, ku, cu, BLu, hzu, hu, ge_u, mu⟩ := q
  rw [hNz] at hzu
  replace X := W.only X mu
  have in_u := in_mem (o := o) hu
  have ne_u_o : u ≠ o := BLu.ne
  replace S_CS := Sta_keepL S_CS K7 (allS (Pln_exa E) (all0))
  replace E := E.keep K7
  replace YB := YB.keep K7
  replace B := B.keep K7 (nin1 ne_b_o)
  replace O := O.keep K7 (allS ge_o (all0))
  replace KP := KP.trans K7 (allS (Or.inl (List.mem_of_getElem? (i := 0) rfl)) (all0))
  obtain ⟨E, YB, FV, FC, ⟨zN', hN', FN⟩, ⟨f', B, hf'⟩, hcu⟩ := BLu
  obtain rfl : zN = zN' := of_toInt (by rw [hN, hN'])
  show Go Γ n0 _ T (mkF Γ.m 10 #[.val (.ref o), .val (.int ch)] [])
  refine k_aloadN G X d11_10 (pc' := 11) rfl rfl rfl ?_
  refine k_callV G X (argsL := []) (rest := []) rfl E (w73 hw) (w74 hw) (nf_sel (w76 hw)) (w76 hw) (w75 hw) (w25 hw) (w77 hw) (by decide) (sb_lat hw o cs h7 n0 _ FC S_CS hcs) d11_11 pd3 rfl (pc' := 14) rfl rfl (wd := 0) rfl (by decide) (by decide) (by decide) (by decide) (fun T h11 v sf11 X q => ?_)
  replace X := W.drop X
  obtain ⟨rfl, e11⟩ := q
  replace X := X.eq e11
  show Go Γ n0 _ T (mkF Γ.m 14 #[.val (.ref o), .val (.int ch)] [(.int (1 : Int32))])
  refine k_if_eq G X d11_14 (pc' := 45) rfl (by decide) (pc'' := 17) rfl (fun c14 => (absurd c14 (by decide))) (fun c14 => ?_)
  refine k_iloadN G X d11_17 (pc' := 18) rfl rfl ?_
  refine k_callS G X (argsL := [(.int ch)]) (rest := []) rfl (w78 hw) (w79 hw) (w80 hw) (w81 hw) (by decide) (can_c hw ch h7 n0 _ hc0 hc1) d11_18 pd16 rfl (pc' := 21) rfl rfl (wd := 0) rfl (by decide) (by decide) (by decide) (by decide) (fun T h18 v sf18 X q => ?_)
  replace X := W.drop X
  obtain ⟨rfl, e18⟩ := q
  replace X := X.eq e18
  show Go Γ n0 _ T (mkF Γ.m 21 #[.val (.ref o), .val (.int ch)] [(.int (1 : Int32))])
  refine k_if_eq G X d11_21 (pc' := 45) rfl (by decide) (pc'' := 24) rfl (fun c21 => (absurd c21 (by decide))) (fun c21 => ?_)
  refine k_aloadN G X d11_24 (pc' := 25) rfl rfl rfl ?_
  refine k_getF G X (host := "") (Or.inl (w31 hw)) Via.refl FV d11_25 (pc' := 28) rfl (fun T X => ?_)
  refine k_aloadN G X d11_28 (pc' := 29) rfl rfl rfl ?_
  refine k_dup G X d11_29 (pc' := 30) rfl rfl ?_
  refine k_getF G X (host := "") (Or.inl (w57 hw)) Via.refl FN d11_30 (pc' := 33) rfl (fun T X => ?_)
  refine k_dupx1 G X d11_33 (pc' := 34) rfl rfl rfl ?_
  refine k_iconst G X d11_34 (pc' := 35) rfl (z := (1 : Int32)) (by decide) ?_
  refine k_iadd G X d11_35 (pc' := 36) rfl rfl ?_
  refine k_putF G X (host := "") (Or.inl (w57 hw)) Via.refl FN E (Or.inl (w58 hw)) (w11 hw) (ty := .int) (by decide) rfl rfl ge_o (List.mem_append_right [u] gm_o.2) d11_36 (pc' := 39) rfl (fun T h36 W36 X => ?_)
  replace O := O.wr W36 ge_o
  replace KP := KP.wr W36 (Or.inl (List.mem_of_getElem? (i := 0) rfl))
  replace S_CS := S_CS.wr W36
  replace E := E.wr W36
  replace YB := YB.wr W36
  replace FV := FV.other W36 (Or.inr (slot_ne (Or.inl (w32 hw)) (Or.inl (w58 hw)) (by decide) (t := (.array .byte)) (t' := .int) (by decide) (by decide)))
  replace FC := FC.other W36 (Or.inr (slot_ne (Or.inl (w34 hw)) (Or.inl (w58 hw)) (by decide) (t := .byte) (t' := .int) (by decide) (by decide)))
  replace FN := FN.same W36
  replace B := B.other W36 ne_u_o
  refine k_iloadN G X d11_39 (pc' := 40) rfl rfl ?_
  refine k_i2b G X d11_40 (pc' := 41) rfl rfl ?_
  rw [i2b_id hc0 hc1]
  refine k_bastore G X (i := L.length) (z := ch) B hN (by omega) (nar_b hc0 hc1) ge_u (List.mem_of_getElem? (i := 0) rfl) d11_41 (pc' := 42) rfl (fun T h41 W41 B X => ?_)
  replace O := O.wr W41 ge_u
  replace KP := KP.wr W41 in_u
  replace S_CS := S_CS.wr W41
  replace E := E.wr W41
  replace YB := YB.wr W41
  replace FV := FV.other W41 (Or.inl (Ne.symm ne_u_o))
  replace FC := FC.other W41 (Or.inl (Ne.symm ne_u_o))
  replace FN := FN.other W41 (Or.inl (Ne.symm ne_u_o))
  refine k_goto G X d11_42 (by decide) (pc' := 75) rfl ?_
  refine k_aloadN G X d11_75 (pc' := 76) rfl rfl rfl ?_
  refine k_reta G X d11_76 (t := (.object "java/lang/AbstractStringBuilder")) rfl rfl rfl ?_ (by decide) (by decide)
  exact ⟨rfl, KP, u, ku, cu, Bld.mkG (D := [ch]) E YB FV FC (by first | exact hNz | simpa using hNz) FN B (fun i hi => by simp only [if_neg (show ¬ i = L.length by omega)]; rw [hf' i hi]) (fun i hi => by (obtain rfl : i = 0 := (by simpa using hi)); simp) (by simp; omega), hu, ge_u, (List.mem_of_getElem? (i := 0) rfl)⟩
theorem pn_10 : plainFor (⟨"java/lang/StringBuilder", "append", "(C)Ljava/lang/StringBuilder;"⟩ : MethodName) = true := plainFor_of_name (by first | (simp [plainName, overriddenIn]; done) | decide +kernel)
set_option maxRecDepth 65536 in
set_option maxHeartbeats 40000000 in
theorem sb_ac {Z : State} {a0 : Array Value} (hw : HW a0 Z) (o b : Addr) (k : ClassId) (cap : Nat) (L : List Int32) (cs : Int32) (ch : Int32) (h0 : Heap) (n0 : Nat) (sf0 : List Addr) (gm_o : n0 ≤ o ∧ o ∈ sf0) (gm_b : n0 ≤ b ∧ b ∈ sf0) (O : Old Z n0 h0) (BL : Bld Z h0 o b k cap L) (S_CS : Sta Z h0 "java/lang/String" "COMPACT_STRINGS" "Z" (.int cs)) (hcs : cs ≠ 0) (hc0 : 0 ≤ ch.toInt) (hc1 : ch.toInt ≤ 127) (hL : L.length + 1 ≤ 32) :
    MetW Z consts_1 sf0 (⟨"java/lang/StringBuilder", "append", "(C)Ljava/lang/StringBuilder;"⟩ : MethodName) jdk_67_method_14_code 2 (some (.object "java/lang/StringBuilder")) [] ({ frames := 5, cells := 1, slots := 64, locals := 75 } : Room) #[(.ref o), (.int ch)] h0 n0 (fun v h sf => v = some (.ref o) ∧ Keep h0 h [o, b] ∧ ∃ u ku cu, Bld Z h o u ku cu (L ++ [ch]) ∧ (u = b ∨ h0.size ≤ u) ∧ n0 ≤ u ∧ u ∈ sf) := by
  refine k_body (hEW hw) (f := (fun m => mkF m 0 #[.val (.ref o), .val (.int ch)] [])) pn_10 (fun m => by first | (simp [entryFrame, mkF, argsToLocals, Value.category, maxLocals]; done) | rfl) ?_
  intro Γ T G X
  have ge_o := gm_o.1
  have ge_b := gm_b.1
  obtain ⟨E, YB, FV, FC, ⟨zN, hN, FN⟩, ⟨f, B, hf⟩, hcap⟩ := id BL
  have ne_b_o : b ≠ o := BL.ne
  obtain ⟨zC, hC⟩ : ∃ z : Int32, z.toInt = cap := ⟨cap.toInt32, len_toInt B.size_lt⟩
  have e1 : (1 : Int32).toInt = 1 := rfl
  show Go Γ n0 _ T (mkF Γ.m 0 #[.val (.ref o), .val (.int ch)] [])
  refine k_aloadN G X d10_0 (pc' := 1) rfl rfl rfl ?_
  refine k_iloadN G X d10_1 (pc' := 2) rfl rfl ?_
  refine k_callU G X (argsL := [(.int ch)]) (rest := []) rfl (Ins.self E) (w64 hw) (smD (w65 hw) ((nf_sib (y := (⟨"java/lang/AbstractStringBuilder", "append", "(C)Ljava/lang/AbstractStringBuilder;"⟩ : MethodName)) (w71 hw) (w69 hw) rfl) Z (State.Warmed39.refl Z)) (by decide)) (w65 hw) (w54 hw) (by decide) (w25 hw) (w67 hw) (sb_ac1 hw o b k cap L cs ch h0 n0 _ ⟨ge_o, (List.mem_append_right [] gm_o.2)⟩ ⟨ge_b, (List.mem_append_right [] gm_b.2)⟩ O BL S_CS hcs hc0 hc1 hL) d10_2 pd17 rfl (pc' := 5) rfl rfl (wd := 0) rfl (by decide) (by decide) (by decide) (by decide) (fun T h2 v sf2 X q => ?_)
  obtain ⟨rfl, KQ, u, ku, cu, BLu, hu, ge_u, mu⟩ := q
  replace X := W.only X mu
  show Go Γ n0 _ T (mkF Γ.m 5 #[.val (.ref o), .val (.int ch)] [(.ref o)])
  refine k_pop G X d10_5 (pc' := 6) rfl rfl ?_
  refine k_aloadN G X d10_6 (pc' := 7) rfl rfl rfl ?_
  refine k_reta G X d10_7 (t := (.object "java/lang/StringBuilder")) rfl rfl rfl ?_ (by decide) (by decide)
  exact ⟨rfl, KQ, u, ku, cu, BLu, hu, ge_u, (List.mem_of_getElem? (i := 0) rfl)⟩
theorem pn_30 : plainFor (⟨"jdk/internal/util/Preconditions", "checkFromToIndex", "(IIILjava/util/function/BiFunction;)I"⟩ : MethodName) = true := plainFor_of_name (by first | (simp [plainName, overriddenIn]; done) | decide +kernel)
set_option maxRecDepth 65536 in
set_option maxHeartbeats 40000000 in
theorem pre_ft {Z : State} {a0 : Array Value} (hw : HW a0 Z) (fi : Value) (h0 : Heap) (n0 : Nat) (sf0 : List Addr) (hfi : fi.isRef = true) :
    MetW Z consts_1 sf0 (⟨"jdk/internal/util/Preconditions", "checkFromToIndex", "(IIILjava/util/function/BiFunction;)I"⟩ : MethodName) jdk_41_method_12_code 4 (some .int) [] ({ frames := 0, cells := 0, slots := 0, locals := 0 } : Room) #[(.int (0 : Int32)), (.int (1 : Int32)), (.int (1 : Int32)), fi] h0 n0 (fun v h sf => v = some (.int 0) ∧ h = h0) := by
  refine k_body (hEW hw) (f := (fun m => mkF m 0 #[.val (.int (0 : Int32)), .val (.int (1 : Int32)), .val (.int (1 : Int32)), .val fi] [])) pn_30 (fun m => by rcases ref_cases hfi with rfl | ⟨a, rfl⟩ <;> first | (simp [entryFrame, mkF, argsToLocals, Value.category, maxLocals]; done) | rfl) ?_
  intro Γ T G X
  show Go Γ n0 _ T (mkF Γ.m 0 #[.val (.int (0 : Int32)), .val (.int (1 : Int32)), .val (.int (1 : Int32)), .val fi] [])
  refine k_iloadN G X d30_0 (pc' := 1) rfl rfl ?_
  refine k_if_lt G X d30_1 (pc' := 14) rfl (by decide) (pc'' := 4) rfl (fun c1 => (absurd c1 (by decide))) (fun c1 => ?_)
  refine k_iloadN G X d30_4 (pc' := 5) rfl rfl ?_
  refine k_iloadN G X d30_5 (pc' := 6) rfl rfl ?_
  refine k_icmp_gt G X d30_6 (pc' := 14) rfl (by decide) (pc'' := 9) rfl (fun c6 => (absurd c6 (by decide))) (fun c6 => ?_)
  refine k_iloadN G X d30_9 (pc' := 10) rfl rfl ?_
  refine k_iloadN G X d30_10 (pc' := 11) rfl rfl ?_
  refine k_icmp_le G X d30_11 (pc' := 22) rfl (by decide) (pc'' := 14) rfl (fun c11 => ?_) (fun c11 => (absurd c11 (by decide)))
  refine k_iloadN G X d30_22 (pc' := 23) rfl rfl ?_
  refine k_reti G X d30_23 rfl ?_ (by decide) (by decide)
  exact ⟨rfl, rfl⟩
theorem pn_32 : plainFor (⟨"java/lang/String", "value", "()[B"⟩ : MethodName) = true := plainFor_of_name (by first | (simp [plainName, overriddenIn]; done) | decide +kernel)
set_option maxRecDepth 65536 in
set_option maxHeartbeats 40000000 in
theorem str_val {Z : State} {a0 : Array Value} (hw : HW a0 Z) (s d : Addr) (h0 : Heap) (n0 : Nat) (sf0 : List Addr) (SV : Fld Z h0 s "java/lang/String" "value" "[B" (.ref d)) :
    MetW Z consts_1 sf0 (⟨"java/lang/String", "value", "()[B"⟩ : MethodName) jdk_42_method_153_code 1 (some (.array .byte)) [] ({ frames := 0, cells := 0, slots := 0, locals := 0 } : Room) #[(.ref s)] h0 n0 (fun v h sf => v = some (.ref d) ∧ h = h0) := by
  refine k_body (hEW hw) (f := (fun m => mkF m 0 #[.val (.ref s)] [])) pn_32 (fun m => by first | (simp [entryFrame, mkF, argsToLocals, Value.category, maxLocals]; done) | rfl) ?_
  intro Γ T G X
  show Go Γ n0 _ T (mkF Γ.m 0 #[.val (.ref s)] [])
  refine k_aloadN G X d32_0 (pc' := 1) rfl rfl rfl ?_
  refine k_getF G X (host := "") (Or.inl (w126 hw)) Via.refl SV d32_1 (pc' := 4) rfl (fun T X => ?_)
  refine k_reta G X d32_4 (t := (.array .byte)) rfl rfl rfl ?_ (by decide) (by decide)
  exact ⟨rfl, rfl⟩
theorem pn_31 : plainFor (⟨"java/lang/AbstractStringBuilder", "appendChars", "(Ljava/lang/String;II)V"⟩ : MethodName) = true := plainFor_of_name (by first | (simp [plainName, overriddenIn]; done) | decide +kernel)
set_option maxRecDepth 65536 in
set_option maxHeartbeats 40000000 in
theorem sb_ach {Z : State} {a0 : Array Value} (hw : HW a0 Z) (o b : Addr) (k : ClassId) (cap : Nat) (L : List Int32) (cs : Int32) (s d : Addr) (kd : ClassId) (fs : Nat → Int32) (h0 : Heap) (n0 : Nat) (sf0 : List Addr) (gm_o : n0 ≤ o ∧ o ∈ sf0) (gm_b : n0 ≤ b ∧ b ∈ sf0) (O : Old Z n0 h0) (BL : Bld Z h0 o b k cap L) (S_CS : Sta Z h0 "java/lang/String" "COMPACT_STRINGS" "Z" (.int cs)) (hcs : cs ≠ 0) (SS : Str Z h0 s d kd 1 fs) (ne_s_o : s ≠ o) (ne_d_o : d ≠ o) (ne_s_b : s ≠ b) (ne_d_b : d ≠ b) (hfit : L.length + 1 ≤ cap) (hL : L.length + 1 ≤ 32) :
    MetW Z consts_1 sf0 (⟨"java/lang/AbstractStringBuilder", "appendChars", "(Ljava/lang/String;II)V"⟩ : MethodName) jdk_68_method_75_code 8 none [] ({ frames := 1, cells := 0, slots := 0, locals := 18 } : Room) #[(.ref o), (.ref s), (.int (0 : Int32)), (.int (1 : Int32))] h0 n0 (fun v h sf => v = none ∧ Keep h0 h [o, b] ∧ Bld Z h o b k cap (L ++ [fs 0])) := by
  refine k_body (hEW hw) (f := (fun m => mkF m 0 #[.val (.ref o), .val (.ref s), .val (.int (0 : Int32)), .val (.int (1 : Int32)), .unset, .unset, .unset, .unset] [])) pn_31 (fun m => by first | (simp [entryFrame, mkF, argsToLocals, Value.category, maxLocals]; done) | rfl) ?_
  intro Γ T G X
  have ge_o := gm_o.1
  have ge_b := gm_b.1
  obtain ⟨E, YB, FV, FC, ⟨zN, hN, FN⟩, ⟨f, B, hf⟩, hcap⟩ := id BL
  have ne_b_o : b ≠ o := BL.ne
  obtain ⟨zC, hC⟩ : ∃ z : Int32, z.toInt = cap := ⟨cap.toInt32, len_toInt B.size_lt⟩
  have e1 : (1 : Int32).toInt = 1 := rfl
  have KP := Keep.refl h0 [o, b]
  have SE := SS.1
  have SA := SS.2.2.2
  have hNz : (zN + (1 : Int32)).toInt = (L.length + 1 : Nat) := by rw [iadd_toInt (by omega) (by omega)]; omega
  show Go Γ n0 _ T (mkF Γ.m 0 #[.val (.ref o), .val (.ref s), .val (.int (0 : Int32)), .val (.int (1 : Int32)), .unset, .unset, .unset, .unset] [])
  refine k_aloadN G X d31_0 (pc' := 1) rfl rfl rfl ?_
  refine k_callV G X (argsL := []) (rest := []) rfl E (w73 hw) (w74 hw) (nf_sel (w76 hw)) (w76 hw) (w75 hw) (w25 hw) (w77 hw) (by decide) (sb_lat hw o cs h0 n0 _ FC S_CS hcs) d31_1 pd3 rfl (pc' := 4) rfl rfl (wd := 0) rfl (by decide) (by decide) (by decide) (by decide) (fun T h1 v sf1 X q => ?_)
  replace X := W.drop X
  obtain ⟨rfl, e1⟩ := q
  replace X := X.eq e1
  show Go Γ n0 _ T (mkF Γ.m 4 #[.val (.ref o), .val (.ref s), .val (.int (0 : Int32)), .val (.int (1 : Int32)), .unset, .unset, .unset, .unset] [(.int (1 : Int32))])
  refine k_if_eq G X d31_4 (pc' := 145) rfl (by decide) (pc'' := 7) rfl (fun c4 => (absurd c4 (by decide))) (fun c4 => ?_)
  refine k_aloadN G X d31_7 (pc' := 8) rfl rfl rfl ?_
  refine k_callV G X (argsL := []) (rest := []) rfl SE (w176 hw) (w140 hw) (nf_sel (w142 hw)) (w142 hw) (w141 hw) (w29 hw) (w143 hw) (by decide) (str_lat hw s d kd 1 (1 : Int32) cs fs h0 n0 _ SS rfl S_CS hcs) d31_8 pd3 rfl (pc' := 11) rfl rfl (wd := 0) rfl (by decide) (by decide) (by decide) (by decide) (fun T h8 v sf8 X q => ?_)
  replace X := W.drop X
  obtain ⟨rfl, e8⟩ := q
  replace X := X.eq e8
  show Go Γ n0 _ T (mkF Γ.m 11 #[.val (.ref o), .val (.ref s), .val (.int (0 : Int32)), .val (.int (1 : Int32)), .unset, .unset, .unset, .unset] [(.int (1 : Int32))])
  refine k_if_eq G X d31_11 (pc' := 36) rfl (by decide) (pc'' := 14) rfl (fun c11 => (absurd c11 (by decide))) (fun c11 => ?_)
  refine k_aloadN G X d31_14 (pc' := 15) rfl rfl rfl ?_
  refine k_callV G X (argsL := []) (rest := []) rfl SE (w177 hw) (w178 hw) (nf_sel (w180 hw)) (w180 hw) (w179 hw) (w29 hw) (w181 hw) (by decide) (str_val hw s d h0 n0 _ SS.2.2.1) d31_15 pd12 rfl (pc' := 18) rfl rfl (wd := 0) rfl (by decide) (by decide) (by decide) (by decide) (fun T h15 v sf15 X q => ?_)
  replace X := W.drop X
  obtain ⟨rfl, e15⟩ := q
  replace X := X.eq e15
  show Go Γ n0 _ T (mkF Γ.m 18 #[.val (.ref o), .val (.ref s), .val (.int (0 : Int32)), .val (.int (1 : Int32)), .unset, .unset, .unset, .unset] [(.ref d)])
  refine k_iloadN G X d31_18 (pc' := 19) rfl rfl ?_
  refine k_aloadN G X d31_19 (pc' := 20) rfl rfl rfl ?_
  refine k_getF G X (host := "") (Or.inl (w31 hw)) Via.refl FV d31_20 (pc' := 23) rfl (fun T X => ?_)
  refine k_aloadN G X d31_23 (pc' := 24) rfl rfl rfl ?_
  refine k_getF G X (host := "") (Or.inl (w57 hw)) Via.refl FN d31_24 (pc' := 27) rfl (fun T X => ?_)
  refine k_iloadN G X d31_27 (pc' := 28) rfl rfl ?_
  refine k_iloadN G X d31_28 (pc' := 29) rfl rfl ?_
  refine k_isub G X d31_29 (pc' := 30) rfl (z := (1 : Int32)) (by decide) ?_
  refine k_copy G X (sp := 0) (dp := L.length) (nn := 1) SA B rfl (w182 hw) (w185 hw) (w183 hw) (w184 hw) rfl hN rfl (by decide) hfit ge_b (List.mem_append_right [] gm_b.2) d31_30 (pc' := 33) rfl rfl (by decide) (wd := 0) rfl (by decide) (fun T h30 K30 B' X => ?_)
  replace S_CS := Sta_keepL S_CS K30 (allS (Pln_exa YB) (all0))
  replace E := E.keep K30
  replace YB := YB.keep K30
  replace FV := FV.keep K30 (nin1 (Ne.symm ne_b_o))
  replace FC := FC.keep K30 (nin1 (Ne.symm ne_b_o))
  replace FN := FN.keep K30 (nin1 (Ne.symm ne_b_o))
  replace O := O.keep K30 (allS ge_b (all0))
  replace KP := KP.trans K30 (allS (Or.inl (List.mem_of_getElem? (i := 1) rfl)) (all0))
  replace SS := SS.keep K30 (nin1 ne_s_b) (nin1 ne_d_b)
  replace SE := SE.keep K30
  replace SA := SA.keep K30 (nin1 ne_d_b)
  have B := B'
  refine k_goto G X d31_33 (by decide) (pc' := 194) rfl ?_
  refine k_aloadN G X d31_194 (pc' := 195) rfl rfl rfl ?_
  refine k_dup G X d31_195 (pc' := 196) rfl rfl ?_
  refine k_getF G X (host := "") (Or.inl (w57 hw)) Via.refl FN d31_196 (pc' := 199) rfl (fun T X => ?_)
  refine k_iloadN G X d31_199 (pc' := 200) rfl rfl ?_
  refine k_iloadN G X d31_200 (pc' := 201) rfl rfl ?_
  refine k_isub G X d31_201 (pc' := 202) rfl (z := (1 : Int32)) (by decide) ?_
  refine k_iadd G X d31_202 (pc' := 203) rfl rfl ?_
  refine k_putF G X (host := "") (Or.inl (w57 hw)) Via.refl FN E (Or.inl (w58 hw)) (w11 hw) (ty := .int) (by decide) rfl rfl ge_o (List.mem_append_right [] gm_o.2) d31_203 (pc' := 206) rfl (fun T h203 W203 X => ?_)
  replace E := E.wr W203
  replace YB := YB.wr W203
  replace FV := FV.other W203 (Or.inr (slot_ne (Or.inl (w32 hw)) (Or.inl (w58 hw)) (by decide) (t := (.array .byte)) (t' := .int) (by decide) (by decide)))
  replace FC := FC.other W203 (Or.inr (slot_ne (Or.inl (w34 hw)) (Or.inl (w58 hw)) (by decide) (t := .byte) (t' := .int) (by decide) (by decide)))
  replace FN := FN.same W203
  replace O := O.wr W203 ge_o
  replace KP := KP.wr W203 (Or.inl (List.mem_of_getElem? (i := 0) rfl))
  replace S_CS := S_CS.wr W203
  replace SS := SS.other W203 ne_s_o ne_d_o
  replace SE := SE.wr W203
  replace SA := SA.other W203 ne_d_o
  replace B := B.other W203 ne_b_o
  refine k_retv G X d31_206 rfl ?_ (by decide) (by decide)
  exact ⟨rfl, KP, Bld.mkG (D := [fs 0]) E YB FV FC (by first | exact hNz | simpa using hNz) FN B (fun i hi => by simp only [if_neg (show ¬ (L.length ≤ i ∧ i < L.length + 1) by omega)]; rw [hf i hi]) (fun i hi => by (obtain rfl : i = 0 := (by simpa using hi)); simp) (by simp; omega)⟩
theorem pn_29 : plainFor (⟨"java/lang/AbstractStringBuilder", "append", "(Ljava/lang/CharSequence;II)Ljava/lang/AbstractStringBuilder;"⟩ : MethodName) = true := plainFor_of_name (by first | (simp [plainName, overriddenIn]; done) | decide +kernel)
set_option maxRecDepth 65536 in
set_option maxHeartbeats 40000000 in
theorem sb_acs1 {Z : State} {a0 : Array Value} (hw : HW a0 Z) (o b : Addr) (k : ClassId) (cap : Nat) (L : List Int32) (cs : Int32) (s d : Addr) (kd : ClassId) (fs : Nat → Int32) (fi : Value) (h0 : Heap) (n0 : Nat) (sf0 : List Addr) (gm_o : n0 ≤ o ∧ o ∈ sf0) (gm_b : n0 ≤ b ∧ b ∈ sf0) (O : Old Z n0 h0) (BL : Bld Z h0 o b k cap L) (S_CS : Sta Z h0 "java/lang/String" "COMPACT_STRINGS" "Z" (.int cs)) (hcs : cs ≠ 0) (SS : Str Z h0 s d kd 1 fs) (ne_s_o : s ≠ o) (ne_d_o : d ≠ o) (ne_s_b : s ≠ b) (ne_d_b : d ≠ b) (S_FI : Sta Z h0 "jdk/internal/util/Preconditions" "IOOBE_FORMATTER" "Ljava/util/function/BiFunction;" fi) (hfi : fi.isRef = true) (hL : L.length + 1 ≤ 32) :
    MetW Z consts_1 sf0 (⟨"java/lang/AbstractStringBuilder", "append", "(Ljava/lang/CharSequence;II)Ljava/lang/AbstractStringBuilder;"⟩ : MethodName) jdk_68_method_27_code 5 (some (.object "java/lang/AbstractStringBuilder")) [] ({ frames := 4, cells := 1, slots := 64, locals := 62 } : Room) #[(.ref o), (.ref s), (.int (0 : Int32)), (.int (1 : Int32))] h0 n0 (fun v h sf => v = some (.ref o) ∧ Keep h0 h [o, b] ∧ ∃ u ku cu, Bld Z h o u ku cu (L ++ [fs 0]) ∧ (u = b ∨ h0.size ≤ u) ∧ n0 ≤ u ∧ u ∈ sf) := by
  refine k_body (hEW hw) (f := (fun m => mkF m 0 #[.val (.ref o), .val (.ref s), .val (.int (0 : Int32)), .val (.int (1 : Int32)), .unset] [])) pn_29 (fun m => by first | (simp [entryFrame, mkF, argsToLocals, Value.category, maxLocals]; done) | rfl) ?_
  intro Γ T G X
  have ge_o := gm_o.1
  have ge_b := gm_b.1
  obtain ⟨E, YB, FV, FC, ⟨zN, hN, FN⟩, ⟨f, B, hf⟩, hcap⟩ := id BL
  have ne_b_o : b ≠ o := BL.ne
  obtain ⟨zC, hC⟩ : ∃ z : Int32, z.toInt = cap := ⟨cap.toInt32, len_toInt B.size_lt⟩
  have e1 : (1 : Int32).toInt = 1 := rfl
  have KP := Keep.refl h0 [o, b]
  have SE := SS.1
  have hNz : (zN + (1 : Int32)).toInt = (L.length + 1 : Nat) := by rw [iadd_toInt (by omega) (by omega)]; omega
  show Go Γ n0 _ T (mkF Γ.m 0 #[.val (.ref o), .val (.ref s), .val (.int (0 : Int32)), .val (.int (1 : Int32)), .unset] [])
  refine k_aloadN G X d29_0 (pc' := 1) rfl rfl rfl ?_
  refine k_ifnonnull G X d29_1 (pc' := 7) rfl (by decide) (pc'' := 4) rfl rfl (fun _ c1 => ?_) (fun c1 => (absurd c1 (by simp)))
  refine k_iloadN G X d29_7 (pc' := 8) rfl rfl ?_
  refine k_iloadN G X d29_8 (pc' := 9) rfl rfl ?_
  refine k_aloadN G X d29_9 (pc' := 10) rfl rfl rfl ?_
  refine k_callF G X (argsL := []) (rest := [(.int (1 : Int32)), (.int (0 : Int32))]) rfl SE (w157 hw) (w158 hw) (w159 hw) (by decide) (w160 hw) (w123 hw) (w161 hw) (w162 hw) (w163 hw) (w29 hw) (w125 hw) (by decide) (str_len hw s d kd 1 (1 : Int32) cs fs h0 n0 _ SS rfl S_CS hcs) d29_10 pd11 rfl (pc' := 15) rfl rfl (wd := 2) rfl (by decide) (by decide) (by decide) (by decide) (fun T h10 v sf10 X q => ?_)
  replace X := W.drop X
  obtain ⟨rfl, e10⟩ := q
  replace X := X.eq e10
  show Go Γ n0 _ T (mkF Γ.m 15 #[.val (.ref o), .val (.ref s), .val (.int (0 : Int32)), .val (.int (1 : Int32)), .unset] [(.int (1 : Int32)), (.int (1 : Int32)), (.int (0 : Int32))])
  refine k_getS G X (host := "") (Or.inl (w164 hw)) Via.refl S_FI d29_15 (pc' := 18) rfl (fun T X => ?_)
  refine k_callS G X (argsL := [(.int (0 : Int32)), (.int (1 : Int32)), (.int (1 : Int32)), fi]) (rest := []) rfl (w166 hw) (w167 hw) (w113 hw) (w168 hw) (by decide) (pre_ft hw fi h0 n0 _ hfi) d29_18 pd18 rfl (pc' := 21) rfl rfl (wd := 0) rfl (by decide) (by decide) (by decide) (by decide) (fun T h18 v sf18 X q => ?_)
  replace X := W.drop X
  obtain ⟨rfl, e18⟩ := q
  replace X := X.eq e18
  show Go Γ n0 _ T (mkF Γ.m 21 #[.val (.ref o), .val (.ref s), .val (.int (0 : Int32)), .val (.int (1 : Int32)), .unset] [(.int (0 : Int32))])
  refine k_pop G X d29_21 (pc' := 22) rfl rfl ?_
  refine k_iloadN G X d29_22 (pc' := 23) rfl rfl ?_
  refine k_iloadN G X d29_23 (pc' := 24) rfl rfl ?_
  refine k_isub G X d29_24 (pc' := 25) rfl (z := (1 : Int32)) (by decide) ?_
  refine k_istore G X d29_25 (pc' := 27) rfl (l' := #[.val (.ref o), .val (.ref s), .val (.int (0 : Int32)), .val (.int (1 : Int32)), .val (.int (1 : Int32))]) rfl ?_
  refine k_aloadN G X d29_27 (pc' := 28) rfl rfl rfl ?_
  refine k_aloadN G X d29_28 (pc' := 29) rfl rfl rfl ?_
  refine k_getF G X (host := "") (Or.inl (w57 hw)) Via.refl FN d29_29 (pc' := 32) rfl (fun T X => ?_)
  refine k_iload G X d29_32 (pc' := 34) rfl rfl ?_
  refine k_iadd G X d29_34 (pc' := 35) rfl rfl ?_
  refine k_callP G X (argsL := [(.int (zN + (1 : Int32)))]) (rest := []) rfl E (w68 hw) (w69 hw) (selQ (w71 hw) (w70 hw) (w69 hw) (by decide)) (w70 hw) (w25 hw) (w72 hw) (by decide) (sb_ens hw o b k cap L cs (zN + (1 : Int32)) h0 n0 _ ⟨ge_o, (List.mem_append_right [] gm_o.2)⟩ ⟨ge_b, (List.mem_append_right [] gm_b.2)⟩ O BL S_CS hcs (by rw [hNz]; omega) (by rw [hNz]; omega) (by rw [hNz]; omega)) d29_35 pd15 rfl (pc' := 38) rfl rfl (wd := 0) rfl (by decide) (by decide) (by decide) (by decide) (fun T h35 v sf35 X q => ?_)
  obtain ⟨rfl, K35, u, ku, cu, BLu, hzu, hu, ge_u, mu⟩ := q
  rw [hNz] at hzu
  replace X := W.only X mu
  have in_u := in_mem (o := o) hu
  have ne_u_o : u ≠ o := BLu.ne
  have ne_s_u : s ≠ u := ne_new hu ne_s_b SS.lt
  have ne_d_u : d ≠ u := ne_new hu ne_d_b SS.lt'
  replace S_CS := Sta_keepL S_CS K35 (allS (Pln_exa E) (all0))
  replace S_FI := Sta_keepL S_FI K35 (allS (Pln_exa E) (all0))
  replace E := E.keep K35
  replace YB := YB.keep K35
  replace B := B.keep K35 (nin1 ne_b_o)
  replace O := O.keep K35 (allS ge_o (all0))
  replace KP := KP.trans K35 (allS (Or.inl (List.mem_of_getElem? (i := 0) rfl)) (all0))
  replace SS := SS.keep K35 (nin1 ne_s_o) (nin1 ne_d_o)
  replace SE := SE.keep K35
  have BL := BLu; have E := BLu.1
  show Go Γ n0 _ T (mkF Γ.m 38 #[.val (.ref o), .val (.ref s), .val (.int (0 : Int32)), .val (.int (1 : Int32)), .val (.int (1 : Int32))] [])
  refine k_aloadN G X d29_38 (pc' := 39) rfl rfl rfl ?_
  refine k_instY G X (w169 hw) (Ins.self SE) d29_39 (pc' := 42) rfl (fun T X => ?_)
  refine k_if_eq G X d29_42 (pc' := 58) rfl (by decide) (pc'' := 45) rfl (fun c42 => (absurd c42 (by decide))) (fun c42 => ?_)
  refine k_aloadN G X d29_45 (pc' := 46) rfl rfl rfl ?_
  refine k_aloadN G X d29_46 (pc' := 47) rfl rfl rfl ?_
  refine k_castY G X (w169 hw) (Ins.self SE) d29_47 (pc' := 50) rfl (fun T X => ?_)
  refine k_iloadN G X d29_50 (pc' := 51) rfl rfl ?_
  refine k_iloadN G X d29_51 (pc' := 52) rfl rfl ?_
  refine k_callP G X (argsL := [(.ref s), (.int (0 : Int32)), (.int (1 : Int32))]) (rest := []) rfl E (w171 hw) (w172 hw) (selQ (w174 hw) (w173 hw) (w172 hw) (by decide)) (w173 hw) (w25 hw) (w175 hw) (by decide) (sb_ach hw o u ku cu L cs s d kd fs h35 n0 _ ⟨ge_o, (List.mem_append_right [u] gm_o.2)⟩ ⟨ge_u, (List.mem_of_getElem? (i := 0) rfl)⟩ O BL S_CS hcs SS ne_s_o ne_d_o ne_s_u ne_d_u (by omega) hL) d29_52 pd19 rfl (pc' := 55) rfl rfl (wd := 0) rfl (by decide) (by decide) (by decide) (by decide) (fun T h52 v sf52 X q => ?_)
  replace X := W.drop X
  obtain ⟨rfl, K52, BLv⟩ := q
  replace KP := KP.trans K52 (allS (Or.inl (List.mem_of_getElem? (i := 0) rfl)) (allS in_u (all0)))
  show Go Γ n0 _ T (mkF Γ.m 55 #[.val (.ref o), .val (.ref s), .val (.int (0 : Int32)), .val (.int (1 : Int32)), .val (.int (1 : Int32))] [])
  refine k_goto G X d29_55 (by decide) (pc' := 65) rfl ?_
  refine k_aloadN G X d29_65 (pc' := 66) rfl rfl rfl ?_
  refine k_reta G X d29_66 (t := (.object "java/lang/AbstractStringBuilder")) rfl rfl rfl ?_ (by decide) (by decide)
  exact ⟨rfl, KP, u, ku, cu, BLv, hu, ge_u, (List.mem_of_getElem? (i := 0) rfl)⟩
theorem pn_28 : plainFor (⟨"java/lang/StringBuilder", "append", "(Ljava/lang/CharSequence;II)Ljava/lang/StringBuilder;"⟩ : MethodName) = true := plainFor_of_name (by first | (simp [plainName, overriddenIn]; done) | decide +kernel)
set_option maxRecDepth 65536 in
set_option maxHeartbeats 40000000 in
theorem sb_acs {Z : State} {a0 : Array Value} (hw : HW a0 Z) (o b : Addr) (k : ClassId) (cap : Nat) (L : List Int32) (cs : Int32) (s d : Addr) (kd : ClassId) (fs : Nat → Int32) (fi : Value) (h0 : Heap) (n0 : Nat) (sf0 : List Addr) (gm_o : n0 ≤ o ∧ o ∈ sf0) (gm_b : n0 ≤ b ∧ b ∈ sf0) (O : Old Z n0 h0) (BL : Bld Z h0 o b k cap L) (S_CS : Sta Z h0 "java/lang/String" "COMPACT_STRINGS" "Z" (.int cs)) (hcs : cs ≠ 0) (SS : Str Z h0 s d kd 1 fs) (ne_s_o : s ≠ o) (ne_d_o : d ≠ o) (ne_s_b : s ≠ b) (ne_d_b : d ≠ b) (S_FI : Sta Z h0 "jdk/internal/util/Preconditions" "IOOBE_FORMATTER" "Ljava/util/function/BiFunction;" fi) (hfi : fi.isRef = true) (hL : L.length + 1 ≤ 32) :
    MetW Z consts_1 sf0 (⟨"java/lang/StringBuilder", "append", "(Ljava/lang/CharSequence;II)Ljava/lang/StringBuilder;"⟩ : MethodName) jdk_67_method_10_code 4 (some (.object "java/lang/StringBuilder")) [] ({ frames := 5, cells := 1, slots := 64, locals := 78 } : Room) #[(.ref o), (.ref s), (.int (0 : Int32)), (.int (1 : Int32))] h0 n0 (fun v h sf => v = some (.ref o) ∧ Keep h0 h [o, b] ∧ ∃ u ku cu, Bld Z h o u ku cu (L ++ [fs 0]) ∧ (u = b ∨ h0.size ≤ u) ∧ n0 ≤ u ∧ u ∈ sf) := by
  refine k_body (hEW hw) (f := (fun m => mkF m 0 #[.val (.ref o), .val (.ref s), .val (.int (0 : Int32)), .val (.int (1 : Int32))] [])) pn_28 (fun m => by first | (simp [entryFrame, mkF, argsToLocals, Value.category, maxLocals]; done) | rfl) ?_
  intro Γ T G X
  have ge_o := gm_o.1
  have ge_b := gm_b.1
  obtain ⟨E, YB, FV, FC, ⟨zN, hN, FN⟩, ⟨f, B, hf⟩, hcap⟩ := id BL
  have ne_b_o : b ≠ o := BL.ne
  obtain ⟨zC, hC⟩ : ∃ z : Int32, z.toInt = cap := ⟨cap.toInt32, len_toInt B.size_lt⟩
  have e1 : (1 : Int32).toInt = 1 := rfl
  have SE := SS.1
  show Go Γ n0 _ T (mkF Γ.m 0 #[.val (.ref o), .val (.ref s), .val (.int (0 : Int32)), .val (.int (1 : Int32))] [])
  refine k_aloadN G X d28_0 (pc' := 1) rfl rfl rfl ?_
  refine k_aloadN G X d28_1 (pc' := 2) rfl rfl rfl ?_
  refine k_iloadN G X d28_2 (pc' := 3) rfl rfl ?_
  refine k_iloadN G X d28_3 (pc' := 4) rfl rfl ?_
  refine k_callU G X (argsL := [(.ref s), (.int (0 : Int32)), (.int (1 : Int32))]) (rest := []) rfl (Ins.self E) (w153 hw) (smD (w154 hw) ((nf_sib (y := (⟨"java/lang/AbstractStringBuilder", "append", "(Ljava/lang/CharSequence;II)Ljava/lang/AbstractStringBuilder;"⟩ : MethodName)) (w71 hw) (w69 hw) rfl) Z (State.Warmed39.refl Z)) (by decide)) (w154 hw) (w54 hw) (by decide) (w25 hw) (w156 hw) (sb_acs1 hw o b k cap L cs s d kd fs fi h0 n0 _ ⟨ge_o, (List.mem_append_right [] gm_o.2)⟩ ⟨ge_b, (List.mem_append_right [] gm_b.2)⟩ O BL S_CS hcs SS ne_s_o ne_d_o ne_s_b ne_d_b S_FI hfi hL) d28_4 pd20 rfl (pc' := 7) rfl rfl (wd := 0) rfl (by decide) (by decide) (by decide) (by decide) (fun T h4 v sf4 X q => ?_)
  obtain ⟨rfl, KQ, u, ku, cu, BLu, hu, ge_u, mu⟩ := q
  replace X := W.only X mu
  show Go Γ n0 _ T (mkF Γ.m 7 #[.val (.ref o), .val (.ref s), .val (.int (0 : Int32)), .val (.int (1 : Int32))] [(.ref o)])
  refine k_pop G X d28_7 (pc' := 8) rfl rfl ?_
  refine k_aloadN G X d28_8 (pc' := 9) rfl rfl rfl ?_
  refine k_reta G X d28_9 (t := (.object "java/lang/StringBuilder")) rfl rfl rfl ?_ (by decide) (by decide)
  exact ⟨rfl, KQ, u, ku, cu, BLu, hu, ge_u, (List.mem_of_getElem? (i := 0) rfl)⟩
theorem pn_52 : plainFor (⟨"java/lang/String", "getBytes", "([BIB)V"⟩ : MethodName) = true := plainFor_of_name (by first | (simp [plainName, overriddenIn]; done) | decide +kernel)
set_option maxRecDepth 65536 in
set_option maxHeartbeats 40000000 in
theorem sb_gb {Z : State} {a0 : Array Value} (hw : HW a0 Z) (s d b : Addr) (kd k : ClassId) (m N : Nat) (zm zN cs : Int32) (f : Nat → Int32) (g : Nat → Value) (cap : Nat) (h0 : Heap) (n0 : Nat) (sf0 : List Addr) (SS : Str Z h0 s d kd m f) (hm : zm.toInt = m) (S_CS : Sta Z h0 "java/lang/String" "COMPACT_STRINGS" "Z" (.int cs)) (hcs : cs ≠ 0) (B : Arf Z h0 b k .byte cap g) (gm_b : n0 ≤ b ∧ b ∈ sf0) (hN : zN.toInt = N) (hfit : N + m ≤ cap) (ne_d_b : d ≠ b) (ne_s_b : s ≠ b) :
    MetW Z consts_1 sf0 (⟨"java/lang/String", "getBytes", "([BIB)V"⟩ : MethodName) jdk_42_method_147_code 4 none [] ({ frames := 1, cells := 0, slots := 0, locals := 18 } : Room) #[(.ref s), (.ref b), (.int zN), (.int (0 : Int32))] h0 n0 (fun v h sf => v = none ∧ Keep h0 h [b] ∧ Arf Z h b k .byte cap (fun i => if N ≤ i ∧ i < N + m then (fun i => .int (f i)) (0 + (i - N)) else g i)) := by
  refine k_body (hEW hw) (f := (fun m => mkF m 0 #[.val (.ref s), .val (.ref b), .val (.int zN), .val (.int (0 : Int32))] [])) pn_52 (fun m => by first | (simp [entryFrame, mkF, argsToLocals, Value.category, maxLocals]; done) | rfl) ?_
  intro Γ T G X
  have ge_b := gm_b.1
  obtain ⟨SE, SC, SV, SA⟩ := id SS
  have KP := Keep.refl h0 [b]
  show Go Γ n0 _ T (mkF Γ.m 0 #[.val (.ref s), .val (.ref b), .val (.int zN), .val (.int (0 : Int32))] [])
  refine k_aloadN G X d52_0 (pc' := 1) rfl rfl rfl ?_
  refine k_callV G X (argsL := []) (rest := []) rfl SE (w127 hw) (w128 hw) (nf_sel (w130 hw)) (w130 hw) (w129 hw) (w29 hw) (w131 hw) (by decide) (str_cod1 hw s d kd m zm cs f h0 n0 _ SS hm S_CS hcs) d52_1 pd0 rfl (pc' := 4) rfl rfl (wd := 0) rfl (by decide) (by decide) (by decide) (by decide) (fun T h1 v sf1 X q => ?_)
  replace X := W.drop X
  obtain ⟨rfl, e1⟩ := q
  replace X := X.eq e1
  show Go Γ n0 _ T (mkF Γ.m 4 #[.val (.ref s), .val (.ref b), .val (.int zN), .val (.int (0 : Int32))] [(.int (0 : Int32))])
  refine k_iloadN G X d52_4 (pc' := 5) rfl rfl ?_
  refine k_icmp_ne G X d52_5 (pc' := 28) rfl (by decide) (pc'' := 8) rfl (fun c5 => (absurd c5 (by decide))) (fun c5 => ?_)
  refine k_aloadN G X d52_8 (pc' := 9) rfl rfl rfl ?_
  refine k_getF G X (host := "") (Or.inl (w126 hw)) Via.refl SV d52_9 (pc' := 12) rfl (fun T X => ?_)
  refine k_iconst G X d52_12 (pc' := 13) rfl (z := (0 : Int32)) (by decide) ?_
  refine k_aloadN G X d52_13 (pc' := 14) rfl rfl rfl ?_
  refine k_iloadN G X d52_14 (pc' := 15) rfl rfl ?_
  refine k_iloadN G X d52_15 (pc' := 16) rfl rfl ?_
  refine k_ishl G X d52_16 (pc' := 17) rfl rfl ?_
  rw [shl0 zN]
  refine k_aloadN G X d52_17 (pc' := 18) rfl rfl rfl ?_
  refine k_getF G X (host := "") (Or.inl (w126 hw)) Via.refl SV d52_18 (pc' := 21) rfl (fun T X => ?_)
  refine k_alen G X (z := zm) SA hm d52_21 (pc' := 22) rfl ?_
  refine k_copy G X (sp := 0) (dp := N) (nn := m) SA B rfl (w283 hw) (w185 hw) (w183 hw) (w184 hw) rfl hN hm (by omega) (by omega) ge_b (List.mem_append_right [] gm_b.2) d52_22 (pc' := 25) rfl rfl (by decide) (wd := 0) rfl (by decide) (fun T h22 K22 B' X => ?_)
  replace S_CS := Sta_keepL S_CS K22 (allS (Pln_arf B) (all0))
  replace SE := SE.keep K22
  replace SC := SC.keep K22 (nin1 ne_s_b)
  replace SV := SV.keep K22 (nin1 ne_s_b)
  replace SA := SA.keep K22 (nin1 ne_d_b)
  replace KP := KP.trans K22 (allS (Or.inl (List.mem_of_getElem? (i := 0) rfl)) (all0))
  have B := B'
  refine k_goto G X d52_25 (by decide) (pc' := 43) rfl ?_
  refine k_retv G X d52_43 rfl ?_ (by decide) (by decide)
  exact ⟨rfl, KP, B⟩
theorem pn_51 : plainFor (⟨"java/lang/AbstractStringBuilder", "inflateIfNeededFor", "(Ljava/lang/String;)V"⟩ : MethodName) = true := plainFor_of_name (by first | (simp [plainName, overriddenIn]; done) | decide +kernel)
set_option maxRecDepth 65536 in
set_option maxHeartbeats 40000000 in
theorem sb_inf {Z : State} {a0 : Array Value} (hw : HW a0 Z) (o s d : Addr) (kd : ClassId) (m : Nat) (zm cs : Int32) (f : Nat → Int32) (h0 : Heap) (n0 : Nat) (sf0 : List Addr) (SS : Str Z h0 s d kd m f) (hm : zm.toInt = m) (S_CS : Sta Z h0 "java/lang/String" "COMPACT_STRINGS" "Z" (.int cs)) (hcs : cs ≠ 0) (FC : Fld Z h0 o "java/lang/AbstractStringBuilder" "coder" "B" (.int (0 : Int32))) :
    MetW Z consts_1 sf0 (⟨"java/lang/AbstractStringBuilder", "inflateIfNeededFor", "(Ljava/lang/String;)V"⟩ : MethodName) jdk_68_method_71_code 2 none [] ({ frames := 1, cells := 0, slots := 0, locals := 13 } : Room) #[(.ref o), (.ref s)] h0 n0 (fun v h sf => v = none ∧ h = h0) := by
  refine k_body (hEW hw) (f := (fun m => mkF m 0 #[.val (.ref o), .val (.ref s)] [])) pn_51 (fun m => by first | (simp [entryFrame, mkF, argsToLocals, Value.category, maxLocals]; done) | rfl) ?_
  intro Γ T G X
  obtain ⟨SE, SC, SV, SA⟩ := id SS
  show Go Γ n0 _ T (mkF Γ.m 0 #[.val (.ref o), .val (.ref s)] [])
  refine k_getS G X (host := "") (Or.inl (w28 hw)) Via.refl S_CS d51_0 (pc' := 3) rfl (fun T X => ?_)
  refine k_if_eq G X d51_3 (pc' := 21) rfl (by decide) (pc'' := 6) rfl (fun c3 => (absurd c3 hcs)) (fun c3 => ?_)
  refine k_aloadN G X d51_6 (pc' := 7) rfl rfl rfl ?_
  refine k_getF G X (host := "") (Or.inl (w33 hw)) Via.refl FC d51_7 (pc' := 10) rfl (fun T X => ?_)
  refine k_aloadN G X d51_10 (pc' := 11) rfl rfl rfl ?_
  refine k_callV G X (argsL := []) (rest := [(.int (0 : Int32))]) rfl SE (w277 hw) (w128 hw) (nf_sel (w130 hw)) (w130 hw) (w129 hw) (w29 hw) (w131 hw) (by decide) (str_cod1 hw s d kd m zm cs f h0 n0 _ SS hm S_CS hcs) d51_11 pd0 rfl (pc' := 14) rfl rfl (wd := 1) rfl (by decide) (by decide) (by decide) (by decide) (fun T h11 v sf11 X q => ?_)
  replace X := W.drop X
  obtain ⟨rfl, e11⟩ := q
  replace X := X.eq e11
  show Go Γ n0 _ T (mkF Γ.m 14 #[.val (.ref o), .val (.ref s)] [(.int (0 : Int32)), (.int (0 : Int32))])
  refine k_icmp_eq G X d51_14 (pc' := 21) rfl (by decide) (pc'' := 17) rfl (fun c14 => ?_) (fun c14 => (absurd c14 (by decide)))
  refine k_retv G X d51_21 rfl ?_ (by decide) (by decide)
  exact ⟨rfl, rfl⟩
theorem pn_50 : plainFor (⟨"java/lang/AbstractStringBuilder", "putStringAt", "(ILjava/lang/String;)V"⟩ : MethodName) = true := plainFor_of_name (by first | (simp [plainName, overriddenIn]; done) | decide +kernel)
set_option maxRecDepth 65536 in
set_option maxHeartbeats 40000000 in
theorem sb_put {Z : State} {a0 : Array Value} (hw : HW a0 Z) (o s d b : Addr) (kd k : ClassId) (m N : Nat) (zm zN cs : Int32) (f : Nat → Int32) (g : Nat → Value) (cap : Nat) (h0 : Heap) (n0 : Nat) (sf0 : List Addr) (SS : Str Z h0 s d kd m f) (hm : zm.toInt = m) (S_CS : Sta Z h0 "java/lang/String" "COMPACT_STRINGS" "Z" (.int cs)) (hcs : cs ≠ 0) (B : Arf Z h0 b k .byte cap g) (gm_b : n0 ≤ b ∧ b ∈ sf0) (hN : zN.toInt = N) (hfit : N + m ≤ cap) (ne_d_b : d ≠ b) (ne_s_b : s ≠ b) (gm_o : n0 ≤ o ∧ o ∈ sf0) (E : Exa Z h0 o "java/lang/StringBuilder") (FV : Fld Z h0 o "java/lang/AbstractStringBuilder" "value" "[B" (.ref b)) (FC : Fld Z h0 o "java/lang/AbstractStringBuilder" "coder" "B" (.int (0 : Int32))) (ne_b_o : b ≠ o) (ne_s_o : s ≠ o) (ne_d_o : d ≠ o) :
    MetW Z consts_1 sf0 (⟨"java/lang/AbstractStringBuilder", "putStringAt", "(ILjava/lang/String;)V"⟩ : MethodName) jdk_68_method_73_code 3 none [] ({ frames := 2, cells := 0, slots := 0, locals := 33 } : Room) #[(.ref o), (.int zN), (.ref s)] h0 n0 (fun v h sf => v = none ∧ Keep h0 h [b] ∧ Arf Z h b k .byte cap (fun i => if N ≤ i ∧ i < N + m then (fun i => .int (f i)) (0 + (i - N)) else g i)) := by
  refine k_body (hEW hw) (f := (fun m => mkF m 0 #[.val (.ref o), .val (.int zN), .val (.ref s)] [])) pn_50 (fun m => by first | (simp [entryFrame, mkF, argsToLocals, Value.category, maxLocals]; done) | rfl) ?_
  intro Γ T G X
  have ge_b := gm_b.1
  have ge_o := gm_o.1
  obtain ⟨SE, SC, SV, SA⟩ := id SS
  have KP := Keep.refl h0 [b]
  show Go Γ n0 _ T (mkF Γ.m 0 #[.val (.ref o), .val (.int zN), .val (.ref s)] [])
  refine k_aloadN G X d50_0 (pc' := 1) rfl rfl rfl ?_
  refine k_aloadN G X d50_1 (pc' := 2) rfl rfl rfl ?_
  refine k_callP G X (argsL := [(.ref s)]) (rest := []) rfl E (w272 hw) (w273 hw) (selQ (w275 hw) (w274 hw) (w273 hw) (by decide)) (w274 hw) (w25 hw) (w276 hw) (by decide) (sb_inf hw o s d kd m zm cs f h0 n0 _ SS hm S_CS hcs FC) d50_2 pd21 rfl (pc' := 5) rfl rfl (wd := 0) rfl (by decide) (by decide) (by decide) (by decide) (fun T h2 v sf2 X q => ?_)
  replace X := W.drop X
  obtain ⟨rfl, e2⟩ := q
  replace X := X.eq e2
  show Go Γ n0 _ T (mkF Γ.m 5 #[.val (.ref o), .val (.int zN), .val (.ref s)] [])
  refine k_aloadN G X d50_5 (pc' := 6) rfl rfl rfl ?_
  refine k_aloadN G X d50_6 (pc' := 7) rfl rfl rfl ?_
  refine k_getF G X (host := "") (Or.inl (w31 hw)) Via.refl FV d50_7 (pc' := 10) rfl (fun T X => ?_)
  refine k_iloadN G X d50_10 (pc' := 11) rfl rfl ?_
  refine k_aloadN G X d50_11 (pc' := 12) rfl rfl rfl ?_
  refine k_getF G X (host := "") (Or.inl (w33 hw)) Via.refl FC d50_12 (pc' := 15) rfl (fun T X => ?_)
  refine k_callV G X (argsL := [(.ref b), (.int zN), (.int (0 : Int32))]) (rest := []) rfl SE (w278 hw) (w279 hw) (nf_sel (w281 hw)) (w281 hw) (w280 hw) (w29 hw) (w282 hw) (by decide) (sb_gb hw s d b kd k m N zm zN cs f g cap h0 n0 _ SS hm S_CS hcs B ⟨ge_b, (List.mem_append_right [] gm_b.2)⟩ hN hfit ne_d_b ne_s_b) d50_15 pd22 rfl (pc' := 18) rfl rfl (wd := 0) rfl (by decide) (by decide) (by decide) (by decide) (fun T h15 v sf15 X q => ?_)
  replace X := W.drop X
  obtain ⟨rfl, K15, B'⟩ := q
  replace S_CS := Sta_keepL S_CS K15 (allS (Pln_arf B) (all0))
  replace SE := SE.keep K15
  replace SC := SC.keep K15 (nin1 ne_s_b)
  replace SV := SV.keep K15 (nin1 ne_s_b)
  replace SA := SA.keep K15 (nin1 ne_d_b)
  replace SS := SS.keep K15 (nin1 ne_s_b) (nin1 ne_d_b)
  replace E := E.keep K15
  replace FV := FV.keep K15 (nin1 (Ne.symm ne_b_o))
  replace FC := FC.keep K15 (nin1 (Ne.symm ne_b_o))
  replace KP := KP.trans K15 (allS (Or.inl (List.mem_of_getElem? (i := 0) rfl)) (all0))
  show Go Γ n0 _ T (mkF Γ.m 18 #[.val (.ref o), .val (.int zN), .val (.ref s)] [])
  refine k_retv G X d50_18 rfl ?_ (by decide) (by decide)
  exact ⟨rfl, KP, B'⟩
theorem pn_49 : plainFor (⟨"java/lang/AbstractStringBuilder", "append", "(Ljava/lang/String;)Ljava/lang/AbstractStringBuilder;"⟩ : MethodName) = true := plainFor_of_name (by first | (simp [plainName, overriddenIn]; done) | decide +kernel)
set_option maxRecDepth 65536 in
set_option maxHeartbeats 40000000 in
theorem sb_as1 {Z : State} {a0 : Array Value} (hw : HW a0 Z) (o b : Addr) (k : ClassId) (cap : Nat) (L : List Int32) (cs : Int32) (s d : Addr) (kd : ClassId) (m : Nat) (zm : Int32) (fs : Nat → Int32) (D : List Int32) (h0 : Heap) (n0 : Nat) (sf0 : List Addr) (gm_o : n0 ≤ o ∧ o ∈ sf0) (gm_b : n0 ≤ b ∧ b ∈ sf0) (O : Old Z n0 h0) (BL : Bld Z h0 o b k cap L) (S_CS : Sta Z h0 "java/lang/String" "COMPACT_STRINGS" "Z" (.int cs)) (hcs : cs ≠ 0) (SS : Str Z h0 s d kd m fs) (hm : zm.toInt = m) (ne_s_o : s ≠ o) (ne_d_o : d ≠ o) (ne_s_b : s ≠ b) (ne_d_b : d ≠ b) (hL : L.length + m ≤ 32) (hD : D.length = m) (hfs : ∀ i, i < m → fs i = D.getD i 0) :
    MetW Z consts_1 sf0 (⟨"java/lang/AbstractStringBuilder", "append", "(Ljava/lang/String;)Ljava/lang/AbstractStringBuilder;"⟩ : MethodName) jdk_68_method_22_code 3 (some (.object "java/lang/AbstractStringBuilder")) [] ({ frames := 4, cells := 1, slots := 64, locals := 62 } : Room) #[(.ref o), (.ref s)] h0 n0 (fun v h sf => v = some (.ref o) ∧ Keep h0 h [o, b] ∧ ∃ u ku cu, Bld Z h o u ku cu (L ++ D) ∧ (u = b ∨ h0.size ≤ u) ∧ n0 ≤ u ∧ u ∈ sf) := by
  refine k_body (hEW hw) (f := (fun m => mkF m 0 #[.val (.ref o), .val (.ref s), .unset] [])) pn_49 (fun m => by first | (simp [entryFrame, mkF, argsToLocals, Value.category, maxLocals]; done) | rfl) ?_
  intro Γ T G X
  have ge_o := gm_o.1
  have ge_b := gm_b.1
  obtain ⟨E, YB, FV, FC, ⟨zN, hN, FN⟩, ⟨f, B, hf⟩, hcap⟩ := id BL
  have ne_b_o : b ≠ o := BL.ne
  obtain ⟨zC, hC⟩ : ∃ z : Int32, z.toInt = cap := ⟨cap.toInt32, len_toInt B.size_lt⟩
  have e1 : (1 : Int32).toInt = 1 := rfl
  have KP := Keep.refl h0 [o, b]
  have SE := SS.1
  have hNz : (zN + zm).toInt = (L.length + m : Nat) := by rw [iadd_toInt (by omega) (by omega)]; omega
  show Go Γ n0 _ T (mkF Γ.m 0 #[.val (.ref o), .val (.ref s), .unset] [])
  refine k_aloadN G X d49_0 (pc' := 1) rfl rfl rfl ?_
  refine k_ifnonnull G X d49_1 (pc' := 9) rfl (by decide) (pc'' := 4) rfl rfl (fun _ c1 => ?_) (fun c1 => (absurd c1 (by simp)))
  refine k_aloadN G X d49_9 (pc' := 10) rfl rfl rfl ?_
  refine k_callV G X (argsL := []) (rest := []) rfl SE (w266 hw) (w122 hw) (nf_sel (w124 hw)) (w124 hw) (w123 hw) (w29 hw) (w125 hw) (by decide) (str_len hw s d kd m zm cs fs h0 n0 _ SS hm S_CS hcs) d49_10 pd11 rfl (pc' := 13) rfl rfl (wd := 0) rfl (by decide) (by decide) (by decide) (by decide) (fun T h10 v sf10 X q => ?_)
  replace X := W.drop X
  obtain ⟨rfl, e10⟩ := q
  replace X := X.eq e10
  show Go Γ n0 _ T (mkF Γ.m 13 #[.val (.ref o), .val (.ref s), .unset] [(.int zm)])
  refine k_istoreN G X d49_13 (pc' := 14) rfl (l' := #[.val (.ref o), .val (.ref s), .val (.int zm)]) rfl ?_
  refine k_aloadN G X d49_14 (pc' := 15) rfl rfl rfl ?_
  refine k_aloadN G X d49_15 (pc' := 16) rfl rfl rfl ?_
  refine k_getF G X (host := "") (Or.inl (w57 hw)) Via.refl FN d49_16 (pc' := 19) rfl (fun T X => ?_)
  refine k_iloadN G X d49_19 (pc' := 20) rfl rfl ?_
  refine k_iadd G X d49_20 (pc' := 21) rfl rfl ?_
  refine k_callP G X (argsL := [(.int (zN + zm))]) (rest := []) rfl E (w68 hw) (w69 hw) (selQ (w71 hw) (w70 hw) (w69 hw) (by decide)) (w70 hw) (w25 hw) (w72 hw) (by decide) (sb_ens hw o b k cap L cs (zN + zm) h0 n0 _ ⟨ge_o, (List.mem_append_right [] gm_o.2)⟩ ⟨ge_b, (List.mem_append_right [] gm_b.2)⟩ O BL S_CS hcs (by rw [hNz]; omega) (by rw [hNz]; omega) (by rw [hNz]; omega)) d49_21 pd15 rfl (pc' := 24) rfl rfl (wd := 0) rfl (by decide) (by decide) (by decide) (by decide) (fun T h21 v sf21 X q => ?_)
  obtain ⟨rfl, K21, u, ku, cu, BLu, hzu, hu, ge_u, mu⟩ := q
  rw [hNz] at hzu
  replace X := W.only X mu
  have in_u := in_mem (o := o) hu
  have ne_u_o : u ≠ o := BLu.ne
  have ne_s_u : s ≠ u := ne_new hu ne_s_b SS.lt
  have ne_d_u : d ≠ u := ne_new hu ne_d_b SS.lt'
  replace S_CS := Sta_keepL S_CS K21 (allS (Pln_exa E) (all0))
  replace E := E.keep K21
  replace YB := YB.keep K21
  replace B := B.keep K21 (nin1 ne_b_o)
  replace O := O.keep K21 (allS ge_o (all0))
  replace KP := KP.trans K21 (allS (Or.inl (List.mem_of_getElem? (i := 0) rfl)) (all0))
  replace SS := SS.keep K21 (nin1 ne_s_o) (nin1 ne_d_o)
  replace SE := SE.keep K21
  obtain ⟨E, YB, FV, FC, ⟨zN', hN', FN⟩, ⟨f', B, hf'⟩, hcu⟩ := BLu
  obtain rfl : zN = zN' := of_toInt (by rw [hN, hN'])
  show Go Γ n0 _ T (mkF Γ.m 24 #[.val (.ref o), .val (.ref s), .val (.int zm)] [])
  refine k_aloadN G X d49_24 (pc' := 25) rfl rfl rfl ?_
  refine k_aloadN G X d49_25 (pc' := 26) rfl rfl rfl ?_
  refine k_getF G X (host := "") (Or.inl (w57 hw)) Via.refl FN d49_26 (pc' := 29) rfl (fun T X => ?_)
  refine k_aloadN G X d49_29 (pc' := 30) rfl rfl rfl ?_
  refine k_callP G X (argsL := [(.int zN), (.ref s)]) (rest := []) rfl E (w267 hw) (w268 hw) (selQ (w270 hw) (w269 hw) (w268 hw) (by decide)) (w269 hw) (w25 hw) (w271 hw) (by decide) (sb_put hw o s d u kd ku m L.length zm zN cs fs _ cu h21 n0 _ SS hm S_CS hcs B ⟨ge_u, (List.mem_of_getElem? (i := 0) rfl)⟩ hN (by omega) ne_d_u ne_s_u ⟨ge_o, (List.mem_append_right [u] gm_o.2)⟩ E FV FC ne_u_o ne_s_o ne_d_o) d49_30 pd23 rfl (pc' := 33) rfl rfl (wd := 0) rfl (by decide) (by decide) (by decide) (by decide) (fun T h30 v sf30 X q => ?_)
  replace X := W.drop X
  obtain ⟨rfl, K30, B'⟩ := q
  replace S_CS := Sta_keepL S_CS K30 (allS (Pln_exa YB) (all0))
  replace O := O.keep K30 (allS ge_u (all0))
  replace KP := KP.trans K30 (allS in_u (all0))
  replace SS := SS.keep K30 (nin1 ne_s_u) (nin1 ne_d_u)
  replace SE := SE.keep K30
  replace E := E.keep K30
  replace YB := YB.keep K30
  replace FV := FV.keep K30 (nin1 (Ne.symm ne_u_o))
  replace FC := FC.keep K30 (nin1 (Ne.symm ne_u_o))
  replace FN := FN.keep K30 (nin1 (Ne.symm ne_u_o))
  have B := B'
  show Go Γ n0 _ T (mkF Γ.m 33 #[.val (.ref o), .val (.ref s), .val (.int zm)] [])
  refine k_aloadN G X d49_33 (pc' := 34) rfl rfl rfl ?_
  refine k_dup G X d49_34 (pc' := 35) rfl rfl ?_
  refine k_getF G X (host := "") (Or.inl (w57 hw)) Via.refl FN d49_35 (pc' := 38) rfl (fun T X => ?_)
  refine k_iloadN G X d49_38 (pc' := 39) rfl rfl ?_
  refine k_iadd G X d49_39 (pc' := 40) rfl rfl ?_
  refine k_putF G X (host := "") (Or.inl (w57 hw)) Via.refl FN E (Or.inl (w58 hw)) (w11 hw) (ty := .int) (by decide) rfl rfl ge_o (List.mem_append_right [u] gm_o.2) d49_40 (pc' := 43) rfl (fun T h40 W40 X => ?_)
  replace O := O.wr W40 ge_o
  replace KP := KP.wr W40 (Or.inl (List.mem_of_getElem? (i := 0) rfl))
  replace S_CS := S_CS.wr W40
  replace SS := SS.other W40 ne_s_o ne_d_o
  replace SE := SE.wr W40
  replace E := E.wr W40
  replace YB := YB.wr W40
  replace FV := FV.other W40 (Or.inr (slot_ne (Or.inl (w32 hw)) (Or.inl (w58 hw)) (by decide) (t := (.array .byte)) (t' := .int) (by decide) (by decide)))
  replace FC := FC.other W40 (Or.inr (slot_ne (Or.inl (w34 hw)) (Or.inl (w58 hw)) (by decide) (t := .byte) (t' := .int) (by decide) (by decide)))
  replace FN := FN.same W40
  replace B := B.other W40 ne_u_o
  refine k_aloadN G X d49_43 (pc' := 44) rfl rfl rfl ?_
  refine k_reta G X d49_44 (t := (.object "java/lang/AbstractStringBuilder")) rfl rfl rfl ?_ (by decide) (by decide)
  exact ⟨rfl, KP, u, ku, cu, Bld.mkG (D := D) E YB FV FC (by rw [hNz, hD]) FN B (fun i hi => by simp only [if_neg (show ¬ (L.length ≤ i ∧ i < L.length + m) by omega)]; rw [hf' i hi]) (fun i hi => by simp only [if_pos (show L.length ≤ L.length + i ∧ L.length + i < L.length + m by omega)]; rw [show 0 + (L.length + i - L.length) = i by omega, hfs i (by omega)]) (by omega), hu, ge_u, (List.mem_of_getElem? (i := 0) rfl)⟩
theorem pn_48 : plainFor (⟨"java/lang/StringBuilder", "append", "(Ljava/lang/String;)Ljava/lang/StringBuilder;"⟩ : MethodName) = true := plainFor_of_name (by first | (simp [plainName, overriddenIn]; done) | decide +kernel)
set_option maxRecDepth 65536 in
set_option maxHeartbeats 40000000 in
theorem sb_as {Z : State} {a0 : Array Value} (hw : HW a0 Z) (o b : Addr) (k : ClassId) (cap : Nat) (L : List Int32) (cs : Int32) (s d : Addr) (kd : ClassId) (m : Nat) (zm : Int32) (fs : Nat → Int32) (D : List Int32) (h0 : Heap) (n0 : Nat) (sf0 : List Addr) (gm_o : n0 ≤ o ∧ o ∈ sf0) (gm_b : n0 ≤ b ∧ b ∈ sf0) (O : Old Z n0 h0) (BL : Bld Z h0 o b k cap L) (S_CS : Sta Z h0 "java/lang/String" "COMPACT_STRINGS" "Z" (.int cs)) (hcs : cs ≠ 0) (SS : Str Z h0 s d kd m fs) (hm : zm.toInt = m) (ne_s_o : s ≠ o) (ne_d_o : d ≠ o) (ne_s_b : s ≠ b) (ne_d_b : d ≠ b) (hL : L.length + m ≤ 32) (hD : D.length = m) (hfs : ∀ i, i < m → fs i = D.getD i 0) :
    MetW Z consts_1 sf0 (⟨"java/lang/StringBuilder", "append", "(Ljava/lang/String;)Ljava/lang/StringBuilder;"⟩ : MethodName) jdk_67_method_7_code 2 (some (.object "java/lang/StringBuilder")) [] ({ frames := 5, cells := 1, slots := 64, locals := 76 } : Room) #[(.ref o), (.ref s)] h0 n0 (fun v h sf => v = some (.ref o) ∧ Keep h0 h [o, b] ∧ ∃ u ku cu, Bld Z h o u ku cu (L ++ D) ∧ (u = b ∨ h0.size ≤ u) ∧ n0 ≤ u ∧ u ∈ sf) := by
  refine k_body (hEW hw) (f := (fun m => mkF m 0 #[.val (.ref o), .val (.ref s)] [])) pn_48 (fun m => by first | (simp [entryFrame, mkF, argsToLocals, Value.category, maxLocals]; done) | rfl) ?_
  intro Γ T G X
  have ge_o := gm_o.1
  have ge_b := gm_b.1
  obtain ⟨E, YB, FV, FC, ⟨zN, hN, FN⟩, ⟨f, B, hf⟩, hcap⟩ := id BL
  have ne_b_o : b ≠ o := BL.ne
  obtain ⟨zC, hC⟩ : ∃ z : Int32, z.toInt = cap := ⟨cap.toInt32, len_toInt B.size_lt⟩
  have e1 : (1 : Int32).toInt = 1 := rfl
  have SE := SS.1
  show Go Γ n0 _ T (mkF Γ.m 0 #[.val (.ref o), .val (.ref s)] [])
  refine k_aloadN G X d48_0 (pc' := 1) rfl rfl rfl ?_
  refine k_aloadN G X d48_1 (pc' := 2) rfl rfl rfl ?_
  refine k_callU G X (argsL := [(.ref s)]) (rest := []) rfl (Ins.self E) (w262 hw) (smD (w263 hw) ((nf_sib (y := (⟨"java/lang/AbstractStringBuilder", "append", "(Ljava/lang/String;)Ljava/lang/AbstractStringBuilder;"⟩ : MethodName)) (w71 hw) (w69 hw) rfl) Z (State.Warmed39.refl Z)) (by decide)) (w263 hw) (w54 hw) (by decide) (w25 hw) (w265 hw) (sb_as1 hw o b k cap L cs s d kd m zm fs D h0 n0 _ ⟨ge_o, (List.mem_append_right [] gm_o.2)⟩ ⟨ge_b, (List.mem_append_right [] gm_b.2)⟩ O BL S_CS hcs SS hm ne_s_o ne_d_o ne_s_b ne_d_b hL hD hfs) d48_2 pd24 rfl (pc' := 5) rfl rfl (wd := 0) rfl (by decide) (by decide) (by decide) (by decide) (fun T h2 v sf2 X q => ?_)
  obtain ⟨rfl, KQ, u, ku, cu, BLu, hu, ge_u, mu⟩ := q
  replace X := W.only X mu
  show Go Γ n0 _ T (mkF Γ.m 5 #[.val (.ref o), .val (.ref s)] [(.ref o)])
  refine k_pop G X d48_5 (pc' := 6) rfl rfl ?_
  refine k_aloadN G X d48_6 (pc' := 7) rfl rfl rfl ?_
  refine k_reta G X d48_7 (t := (.object "java/lang/StringBuilder")) rfl rfl rfl ?_ (by decide) (by decide)
  exact ⟨rfl, KQ, u, ku, cu, BLu, hu, ge_u, (List.mem_of_getElem? (i := 0) rfl)⟩
theorem pn_56 : plainFor (⟨"java/lang/AbstractStringBuilder", "append", "(Z)Ljava/lang/AbstractStringBuilder;"⟩ : MethodName) = true := plainFor_of_name (by first | (simp [plainName, overriddenIn]; done) | decide +kernel)
set_option maxRecDepth 65536 in
set_option maxHeartbeats 40000000 in
theorem sb_az11 {Z : State} {a0 : Array Value} (hw : HW a0 Z) (o b : Addr) (k : ClassId) (cap : Nat) (L : List Int32) (cs : Int32) (h0 : Heap) (n0 : Nat) (sf0 : List Addr) (gm_o : n0 ≤ o ∧ o ∈ sf0) (gm_b : n0 ≤ b ∧ b ∈ sf0) (O : Old Z n0 h0) (BL : Bld Z h0 o b k cap L) (S_CS : Sta Z h0 "java/lang/String" "COMPACT_STRINGS" "Z" (.int cs)) (hcs : cs ≠ 0) (hL : L.length + 4 ≤ 32) :
    MetW Z consts_1 sf0 (⟨"java/lang/AbstractStringBuilder", "append", "(Z)Ljava/lang/AbstractStringBuilder;"⟩ : MethodName) jdk_68_method_30_code 4 (some (.object "java/lang/AbstractStringBuilder")) [] ({ frames := 4, cells := 1, slots := 64, locals := 62 } : Room) #[(.ref o), (.int (1 : Int32))] h0 n0 (fun v h sf => v = some (.ref o) ∧ Keep h0 h [o, b] ∧ ∃ u ku cu, Bld Z h o u ku cu (L ++ [116, 114, 117, 101]) ∧ (u = b ∨ h0.size ≤ u) ∧ n0 ≤ u ∧ u ∈ sf) := by
  refine k_body (hEW hw) (f := (fun m => mkF m 0 #[.val (.ref o), .val (.int (1 : Int32)), .unset, .unset] [])) pn_56 (fun m => by first | (simp [entryFrame, mkF, argsToLocals, Value.category, maxLocals]; done) | rfl) ?_
  intro Γ T G X
  have ge_o := gm_o.1
  have ge_b := gm_b.1
  obtain ⟨E, YB, FV, FC, ⟨zN, hN, FN⟩, ⟨f, B, hf⟩, hcap⟩ := id BL
  have ne_b_o : b ≠ o := BL.ne
  obtain ⟨zC, hC⟩ : ∃ z : Int32, z.toInt = cap := ⟨cap.toInt32, len_toInt B.size_lt⟩
  have e1 : (1 : Int32).toInt = 1 := rfl
  have KP := Keep.refl h0 [o, b]
  have e4 : (4 : Int32).toInt = 4 := rfl
  have hNz : (zN + (4 : Int32)).toInt = (L.length + 4 : Nat) := by rw [iadd_toInt (by omega) (by omega)]; omega
  have hN0 := hN
  have hN1 : (zN + (1 : Int32)).toInt = (L.length + 1 : Nat) := by rw [iadd_toInt (by rw [hN0]; omega) (by rw [hN0]; omega), hN0]; omega
  have hN2 : ((zN + (1 : Int32)) + (1 : Int32)).toInt = (L.length + 2 : Nat) := by rw [iadd_toInt (by rw [hN1]; omega) (by rw [hN1]; omega), hN1]; omega
  have hN3 : (((zN + (1 : Int32)) + (1 : Int32)) + (1 : Int32)).toInt = (L.length + 3 : Nat) := by rw [iadd_toInt (by rw [hN2]; omega) (by rw [hN2]; omega), hN2]; omega
  have hN4 : ((((zN + (1 : Int32)) + (1 : Int32)) + (1 : Int32)) + (1 : Int32)).toInt = (L.length + 4 : Nat) := by rw [iadd_toInt (by rw [hN3]; omega) (by rw [hN3]; omega), hN3]; omega
  show Go Γ n0 _ T (mkF Γ.m 0 #[.val (.ref o), .val (.int (1 : Int32)), .unset, .unset] [])
  refine k_aloadN G X d56_0 (pc' := 1) rfl rfl rfl ?_
  refine k_aloadN G X d56_1 (pc' := 2) rfl rfl rfl ?_
  refine k_getF G X (host := "") (Or.inl (w57 hw)) Via.refl FN d56_2 (pc' := 5) rfl (fun T X => ?_)
  refine k_iloadN G X d56_5 (pc' := 6) rfl rfl ?_
  refine k_if_eq G X d56_6 (pc' := 13) rfl (by decide) (pc'' := 9) rfl (fun c6 => (absurd c6 (by decide))) (fun c6 => ?_)
  refine k_iconst G X d56_9 (pc' := 10) rfl (z := (4 : Int32)) (by decide) ?_
  refine k_goto G X d56_10 (by decide) (pc' := 14) rfl ?_
  refine k_iadd G X d56_14 (pc' := 15) rfl rfl ?_
  refine k_callP G X (argsL := [(.int (zN + (4 : Int32)))]) (rest := []) rfl E (w68 hw) (w69 hw) (selQ (w71 hw) (w70 hw) (w69 hw) (by decide)) (w70 hw) (w25 hw) (w72 hw) (by decide) (sb_ens hw o b k cap L cs (zN + (4 : Int32)) h0 n0 _ ⟨ge_o, (List.mem_append_right [] gm_o.2)⟩ ⟨ge_b, (List.mem_append_right [] gm_b.2)⟩ O BL S_CS hcs (by rw [hNz]; omega) (by rw [hNz]; omega) (by rw [hNz]; omega)) d56_15 pd15 rfl (pc' := 18) rfl rfl (wd := 0) rfl (by decide) (by decide) (by decide) (by decide) (fun T h15 v sf15 X q => ?_)
  obtain ⟨rfl, K15, u, ku, cu, BLu, hzu, hu, ge_u, mu⟩ := q
  rw [hNz] at hzu
  replace X := W.only X mu
  have in_u := in_mem (o := o) hu
  have ne_u_o : u ≠ o := BLu.ne
  replace S_CS := Sta_keepL S_CS K15 (allS (Pln_exa E) (all0))
  replace E := E.keep K15
  replace YB := YB.keep K15
  replace B := B.keep K15 (nin1 ne_b_o)
  replace O := O.keep K15 (allS ge_o (all0))
  replace KP := KP.trans K15 (allS (Or.inl (List.mem_of_getElem? (i := 0) rfl)) (all0))
  obtain ⟨E, YB, FV, FC, ⟨zN', hN', FN⟩, ⟨f', B, hf'⟩, hcu⟩ := BLu
  obtain rfl : zN = zN' := of_toInt (by rw [hN, hN'])
  show Go Γ n0 _ T (mkF Γ.m 18 #[.val (.ref o), .val (.int (1 : Int32)), .unset, .unset] [])
  refine k_aloadN G X d56_18 (pc' := 19) rfl rfl rfl ?_
  refine k_getF G X (host := "") (Or.inl (w57 hw)) Via.refl FN d56_19 (pc' := 22) rfl (fun T X => ?_)
  refine k_istoreN G X d56_22 (pc' := 23) rfl (l' := #[.val (.ref o), .val (.int (1 : Int32)), .val (.int zN), .unset]) rfl ?_
  refine k_aloadN G X d56_23 (pc' := 24) rfl rfl rfl ?_
  refine k_getF G X (host := "") (Or.inl (w31 hw)) Via.refl FV d56_24 (pc' := 27) rfl (fun T X => ?_)
  refine k_astoreN G X d56_27 (pc' := 28) rfl rfl (l' := #[.val (.ref o), .val (.int (1 : Int32)), .val (.int zN), .val (.ref u)]) rfl ?_
  refine k_aloadN G X d56_28 (pc' := 29) rfl rfl rfl ?_
  refine k_callV G X (argsL := []) (rest := []) rfl E (w73 hw) (w74 hw) (nf_sel (w76 hw)) (w76 hw) (w75 hw) (w25 hw) (w77 hw) (by decide) (sb_lat hw o cs h15 n0 _ FC S_CS hcs) d56_29 pd3 rfl (pc' := 32) rfl rfl (wd := 0) rfl (by decide) (by decide) (by decide) (by decide) (fun T h29 v sf29 X q => ?_)
  replace X := W.drop X
  obtain ⟨rfl, e29⟩ := q
  replace X := X.eq e29
  show Go Γ n0 _ T (mkF Γ.m 32 #[.val (.ref o), .val (.int (1 : Int32)), .val (.int zN), .val (.ref u)] [(.int (1 : Int32))])
  refine k_if_eq G X d56_32 (pc' := 117) rfl (by decide) (pc'' := 35) rfl (fun c32 => (absurd c32 (by decide))) (fun c32 => ?_)
  refine k_iloadN G X d56_35 (pc' := 36) rfl rfl ?_
  refine k_if_eq G X d56_36 (pc' := 74) rfl (by decide) (pc'' := 39) rfl (fun c36 => (absurd c36 (by decide))) (fun c36 => ?_)
  refine k_aloadN G X d56_39 (pc' := 40) rfl rfl rfl ?_
  refine k_iloadN G X d56_40 (pc' := 41) rfl rfl ?_
  refine k_iinc G X d56_41 (pc' := 44) rfl rfl (z := (zN + (1 : Int32))) rfl (l' := #[.val (.ref o), .val (.int (1 : Int32)), .val (.int (zN + (1 : Int32))), .val (.ref u)]) rfl ?_
  refine k_bipush G X d56_44 (pc' := 46) rfl (z := (116 : Int32)) (by decide) ?_
  refine k_bastore G X (i := L.length) (z := (116 : Int32)) B hN0 (by omega) (by decide) ge_u (List.mem_of_getElem? (i := 0) rfl) d56_46 (pc' := 47) rfl (fun T h46 W46 B X => ?_)
  replace O := O.wr W46 ge_u
  replace KP := KP.wr W46 in_u
  replace S_CS := S_CS.wr W46
  replace E := E.wr W46
  replace YB := YB.wr W46
  replace FV := FV.other W46 (Or.inl (Ne.symm ne_u_o))
  replace FC := FC.other W46 (Or.inl (Ne.symm ne_u_o))
  replace FN := FN.other W46 (Or.inl (Ne.symm ne_u_o))
  refine k_aloadN G X d56_47 (pc' := 48) rfl rfl rfl ?_
  refine k_iloadN G X d56_48 (pc' := 49) rfl rfl ?_
  refine k_iinc G X d56_49 (pc' := 52) rfl rfl (z := ((zN + (1 : Int32)) + (1 : Int32))) rfl (l' := #[.val (.ref o), .val (.int (1 : Int32)), .val (.int ((zN + (1 : Int32)) + (1 : Int32))), .val (.ref u)]) rfl ?_
  refine k_bipush G X d56_52 (pc' := 54) rfl (z := (114 : Int32)) (by decide) ?_
  refine k_bastore G X (i := (L.length + 1)) (z := (114 : Int32)) B hN1 (by omega) (by decide) ge_u (List.mem_of_getElem? (i := 0) rfl) d56_54 (pc' := 55) rfl (fun T h54 W54 B X => ?_)
  replace O := O.wr W54 ge_u
  replace KP := KP.wr W54 in_u
  replace S_CS := S_CS.wr W54
  replace E := E.wr W54
  replace YB := YB.wr W54
  replace FV := FV.other W54 (Or.inl (Ne.symm ne_u_o))
  replace FC := FC.other W54 (Or.inl (Ne.symm ne_u_o))
  replace FN := FN.other W54 (Or.inl (Ne.symm ne_u_o))
  refine k_aloadN G X d56_55 (pc' := 56) rfl rfl rfl ?_
  refine k_iloadN G X d56_56 (pc' := 57) rfl rfl ?_
  refine k_iinc G X d56_57 (pc' := 60) rfl rfl (z := (((zN + (1 : Int32)) + (1 : Int32)) + (1 : Int32))) rfl (l' := #[.val (.ref o), .val (.int (1 : Int32)), .val (.int (((zN + (1 : Int32)) + (1 : Int32)) + (1 : Int32))), .val (.ref u)]) rfl ?_
  refine k_bipush G X d56_60 (pc' := 62) rfl (z := (117 : Int32)) (by decide) ?_
  refine k_bastore G X (i := (L.length + 2)) (z := (117 : Int32)) B hN2 (by omega) (by decide) ge_u (List.mem_of_getElem? (i := 0) rfl) d56_62 (pc' := 63) rfl (fun T h62 W62 B X => ?_)
  replace O := O.wr W62 ge_u
  replace KP := KP.wr W62 in_u
  replace S_CS := S_CS.wr W62
  replace E := E.wr W62
  replace YB := YB.wr W62
  replace FV := FV.other W62 (Or.inl (Ne.symm ne_u_o))
  replace FC := FC.other W62 (Or.inl (Ne.symm ne_u_o))
  replace FN := FN.other W62 (Or.inl (Ne.symm ne_u_o))
  refine k_aloadN G X d56_63 (pc' := 64) rfl rfl rfl ?_
  refine k_iloadN G X d56_64 (pc' := 65) rfl rfl ?_
  refine k_iinc G X d56_65 (pc' := 68) rfl rfl (z := ((((zN + (1 : Int32)) + (1 : Int32)) + (1 : Int32)) + (1 : Int32))) rfl (l' := #[.val (.ref o), .val (.int (1 : Int32)), .val (.int ((((zN + (1 : Int32)) + (1 : Int32)) + (1 : Int32)) + (1 : Int32))), .val (.ref u)]) rfl ?_
  refine k_bipush G X d56_68 (pc' := 70) rfl (z := (101 : Int32)) (by decide) ?_
  refine k_bastore G X (i := (L.length + 3)) (z := (101 : Int32)) B hN3 (by omega) (by decide) ge_u (List.mem_of_getElem? (i := 0) rfl) d56_70 (pc' := 71) rfl (fun T h70 W70 B X => ?_)
  replace O := O.wr W70 ge_u
  replace KP := KP.wr W70 in_u
  replace S_CS := S_CS.wr W70
  replace E := E.wr W70
  replace YB := YB.wr W70
  replace FV := FV.other W70 (Or.inl (Ne.symm ne_u_o))
  replace FC := FC.other W70 (Or.inl (Ne.symm ne_u_o))
  replace FN := FN.other W70 (Or.inl (Ne.symm ne_u_o))
  refine k_goto G X d56_71 (by decide) (pc' := 154) rfl ?_
  refine k_aloadN G X d56_154 (pc' := 155) rfl rfl rfl ?_
  refine k_iloadN G X d56_155 (pc' := 156) rfl rfl ?_
  refine k_putF G X (host := "") (Or.inl (w57 hw)) Via.refl FN E (Or.inl (w58 hw)) (w11 hw) (ty := .int) (by decide) rfl rfl ge_o (List.mem_append_right [u] gm_o.2) d56_156 (pc' := 159) rfl (fun T h156 W156 X => ?_)
  replace O := O.wr W156 ge_o
  replace KP := KP.wr W156 (Or.inl (List.mem_of_getElem? (i := 0) rfl))
  replace S_CS := S_CS.wr W156
  replace E := E.wr W156
  replace YB := YB.wr W156
  replace FV := FV.other W156 (Or.inr (slot_ne (Or.inl (w32 hw)) (Or.inl (w58 hw)) (by decide) (t := (.array .byte)) (t' := .int) (by decide) (by decide)))
  replace FC := FC.other W156 (Or.inr (slot_ne (Or.inl (w34 hw)) (Or.inl (w58 hw)) (by decide) (t := .byte) (t' := .int) (by decide) (by decide)))
  replace FN := FN.same W156
  replace B := B.other W156 ne_u_o
  refine k_aloadN G X d56_159 (pc' := 160) rfl rfl rfl ?_
  refine k_reta G X d56_160 (t := (.object "java/lang/AbstractStringBuilder")) rfl rfl rfl ?_ (by decide) (by decide)
  exact ⟨rfl, KP, u, ku, cu, Bld.mkG (D := [116, 114, 117, 101]) E YB FV FC (by first | exact hN4 | simpa using hN0) FN B (fun i hi => by simp only [if_neg (show ¬ i = L.length by omega), if_neg (show ¬ i = L.length + 1 by omega), if_neg (show ¬ i = L.length + 2 by omega), if_neg (show ¬ i = L.length + 3 by omega)]; rw [hf' i hi]) (fun i hi => by rcases (by simp at hi; omega : i = 0 ∨ i = 1 ∨ i = 2 ∨ i = 3) with rfl | rfl | rfl | rfl <;> simp) (by simp; omega), hu, ge_u, (List.mem_of_getElem? (i := 0) rfl)⟩
theorem pn_55 : plainFor (⟨"java/lang/StringBuilder", "append", "(Z)Ljava/lang/StringBuilder;"⟩ : MethodName) = true := plainFor_of_name (by first | (simp [plainName, overriddenIn]; done) | decide +kernel)
set_option maxRecDepth 65536 in
set_option maxHeartbeats 40000000 in
theorem sb_az1 {Z : State} {a0 : Array Value} (hw : HW a0 Z) (o b : Addr) (k : ClassId) (cap : Nat) (L : List Int32) (cs : Int32) (h0 : Heap) (n0 : Nat) (sf0 : List Addr) (gm_o : n0 ≤ o ∧ o ∈ sf0) (gm_b : n0 ≤ b ∧ b ∈ sf0) (O : Old Z n0 h0) (BL : Bld Z h0 o b k cap L) (S_CS : Sta Z h0 "java/lang/String" "COMPACT_STRINGS" "Z" (.int cs)) (hcs : cs ≠ 0) (hL : L.length + 4 ≤ 32) :
    MetW Z consts_1 sf0 (⟨"java/lang/StringBuilder", "append", "(Z)Ljava/lang/StringBuilder;"⟩ : MethodName) jdk_67_method_13_code 2 (some (.object "java/lang/StringBuilder")) [] ({ frames := 5, cells := 1, slots := 64, locals := 77 } : Room) #[(.ref o), (.int (1 : Int32))] h0 n0 (fun v h sf => v = some (.ref o) ∧ Keep h0 h [o, b] ∧ ∃ u ku cu, Bld Z h o u ku cu (L ++ [116, 114, 117, 101]) ∧ (u = b ∨ h0.size ≤ u) ∧ n0 ≤ u ∧ u ∈ sf) := by
  refine k_body (hEW hw) (f := (fun m => mkF m 0 #[.val (.ref o), .val (.int (1 : Int32))] [])) pn_55 (fun m => by first | (simp [entryFrame, mkF, argsToLocals, Value.category, maxLocals]; done) | rfl) ?_
  intro Γ T G X
  have ge_o := gm_o.1
  have ge_b := gm_b.1
  obtain ⟨E, YB, FV, FC, ⟨zN, hN, FN⟩, ⟨f, B, hf⟩, hcap⟩ := id BL
  have ne_b_o : b ≠ o := BL.ne
  obtain ⟨zC, hC⟩ : ∃ z : Int32, z.toInt = cap := ⟨cap.toInt32, len_toInt B.size_lt⟩
  have e1 : (1 : Int32).toInt = 1 := rfl
  show Go Γ n0 _ T (mkF Γ.m 0 #[.val (.ref o), .val (.int (1 : Int32))] [])
  refine k_aloadN G X d55_0 (pc' := 1) rfl rfl rfl ?_
  refine k_iloadN G X d55_1 (pc' := 2) rfl rfl ?_
  refine k_callU G X (argsL := [(.int (1 : Int32))]) (rest := []) rfl (Ins.self E) (w303 hw) (smD (w304 hw) ((nf_sib (y := (⟨"java/lang/AbstractStringBuilder", "append", "(Z)Ljava/lang/AbstractStringBuilder;"⟩ : MethodName)) (w71 hw) (w69 hw) rfl) Z (State.Warmed39.refl Z)) (by decide)) (w304 hw) (w54 hw) (by decide) (w25 hw) (w306 hw) (sb_az11 hw o b k cap L cs h0 n0 _ ⟨ge_o, (List.mem_append_right [] gm_o.2)⟩ ⟨ge_b, (List.mem_append_right [] gm_b.2)⟩ O BL S_CS hcs hL) d55_2 pd25 rfl (pc' := 5) rfl rfl (wd := 0) rfl (by decide) (by decide) (by decide) (by decide) (fun T h2 v sf2 X q => ?_)
  obtain ⟨rfl, KQ, u, ku, cu, BLu, hu, ge_u, mu⟩ := q
  replace X := W.only X mu
  show Go Γ n0 _ T (mkF Γ.m 5 #[.val (.ref o), .val (.int (1 : Int32))] [(.ref o)])
  refine k_pop G X d55_5 (pc' := 6) rfl rfl ?_
  refine k_aloadN G X d55_6 (pc' := 7) rfl rfl rfl ?_
  refine k_reta G X d55_7 (t := (.object "java/lang/StringBuilder")) rfl rfl rfl ?_ (by decide) (by decide)
  exact ⟨rfl, KQ, u, ku, cu, BLu, hu, ge_u, (List.mem_of_getElem? (i := 0) rfl)⟩
set_option maxRecDepth 65536 in
set_option maxHeartbeats 40000000 in
theorem sb_az10 {Z : State} {a0 : Array Value} (hw : HW a0 Z) (o b : Addr) (k : ClassId) (cap : Nat) (L : List Int32) (cs : Int32) (h0 : Heap) (n0 : Nat) (sf0 : List Addr) (gm_o : n0 ≤ o ∧ o ∈ sf0) (gm_b : n0 ≤ b ∧ b ∈ sf0) (O : Old Z n0 h0) (BL : Bld Z h0 o b k cap L) (S_CS : Sta Z h0 "java/lang/String" "COMPACT_STRINGS" "Z" (.int cs)) (hcs : cs ≠ 0) (hL : L.length + 5 ≤ 32) :
    MetW Z consts_1 sf0 (⟨"java/lang/AbstractStringBuilder", "append", "(Z)Ljava/lang/AbstractStringBuilder;"⟩ : MethodName) jdk_68_method_30_code 4 (some (.object "java/lang/AbstractStringBuilder")) [] ({ frames := 4, cells := 1, slots := 64, locals := 62 } : Room) #[(.ref o), (.int (0 : Int32))] h0 n0 (fun v h sf => v = some (.ref o) ∧ Keep h0 h [o, b] ∧ ∃ u ku cu, Bld Z h o u ku cu (L ++ [102, 97, 108, 115, 101]) ∧ (u = b ∨ h0.size ≤ u) ∧ n0 ≤ u ∧ u ∈ sf) := by
  refine k_body (hEW hw) (f := (fun m => mkF m 0 #[.val (.ref o), .val (.int (0 : Int32)), .unset, .unset] [])) pn_56 (fun m => by first | (simp [entryFrame, mkF, argsToLocals, Value.category, maxLocals]; done) | rfl) ?_
  intro Γ T G X
  have ge_o := gm_o.1
  have ge_b := gm_b.1
  obtain ⟨E, YB, FV, FC, ⟨zN, hN, FN⟩, ⟨f, B, hf⟩, hcap⟩ := id BL
  have ne_b_o : b ≠ o := BL.ne
  obtain ⟨zC, hC⟩ : ∃ z : Int32, z.toInt = cap := ⟨cap.toInt32, len_toInt B.size_lt⟩
  have e1 : (1 : Int32).toInt = 1 := rfl
  have KP := Keep.refl h0 [o, b]
  have e4 : (5 : Int32).toInt = 5 := rfl
  have hNz : (zN + (5 : Int32)).toInt = (L.length + 5 : Nat) := by rw [iadd_toInt (by omega) (by omega)]; omega
  have hN0 := hN
  have hN1 : (zN + (1 : Int32)).toInt = (L.length + 1 : Nat) := by rw [iadd_toInt (by rw [hN0]; omega) (by rw [hN0]; omega), hN0]; omega
  have hN2 : ((zN + (1 : Int32)) + (1 : Int32)).toInt = (L.length + 2 : Nat) := by rw [iadd_toInt (by rw [hN1]; omega) (by rw [hN1]; omega), hN1]; omega
  have hN3 : (((zN + (1 : Int32)) + (1 : Int32)) + (1 : Int32)).toInt = (L.length + 3 : Nat) := by rw [iadd_toInt (by rw [hN2]; omega) (by rw [hN2]; omega), hN2]; omega
  have hN4 : ((((zN + (1 : Int32)) + (1 : Int32)) + (1 : Int32)) + (1 : Int32)).toInt = (L.length + 4 : Nat) := by rw [iadd_toInt (by rw [hN3]; omega) (by rw [hN3]; omega), hN3]; omega
  have hN5 : (((((zN + (1 : Int32)) + (1 : Int32)) + (1 : Int32)) + (1 : Int32)) + (1 : Int32)).toInt = (L.length + 5 : Nat) := by rw [iadd_toInt (by rw [hN4]; omega) (by rw [hN4]; omega), hN4]; omega
  show Go Γ n0 _ T (mkF Γ.m 0 #[.val (.ref o), .val (.int (0 : Int32)), .unset, .unset] [])
  refine k_aloadN G X d56_0 (pc' := 1) rfl rfl rfl ?_
  refine k_aloadN G X d56_1 (pc' := 2) rfl rfl rfl ?_
  refine k_getF G X (host := "") (Or.inl (w57 hw)) Via.refl FN d56_2 (pc' := 5) rfl (fun T X => ?_)
  refine k_iloadN G X d56_5 (pc' := 6) rfl rfl ?_
  refine k_if_eq G X d56_6 (pc' := 13) rfl (by decide) (pc'' := 9) rfl (fun c6 => ?_) (fun c6 => (absurd c6 (by decide)))
  refine k_iconst G X d56_13 (pc' := 14) rfl (z := (5 : Int32)) (by decide) ?_
  refine k_iadd G X d56_14 (pc' := 15) rfl rfl ?_
  refine k_callP G X (argsL := [(.int (zN + (5 : Int32)))]) (rest := []) rfl E (w68 hw) (w69 hw) (selQ (w71 hw) (w70 hw) (w69 hw) (by decide)) (w70 hw) (w25 hw) (w72 hw) (by decide) (sb_ens hw o b k cap L cs (zN + (5 : Int32)) h0 n0 _ ⟨ge_o, (List.mem_append_right [] gm_o.2)⟩ ⟨ge_b, (List.mem_append_right [] gm_b.2)⟩ O BL S_CS hcs (by rw [hNz]; omega) (by rw [hNz]; omega) (by rw [hNz]; omega)) d56_15 pd15 rfl (pc' := 18) rfl rfl (wd := 0) rfl (by decide) (by decide) (by decide) (by decide) (fun T h15 v sf15 X q => ?_)
  obtain ⟨rfl, K15, u, ku, cu, BLu, hzu, hu, ge_u, mu⟩ := q
  rw [hNz] at hzu
  replace X := W.only X mu
  have in_u := in_mem (o := o) hu
  have ne_u_o : u ≠ o := BLu.ne
  replace S_CS := Sta_keepL S_CS K15 (allS (Pln_exa E) (all0))
  replace E := E.keep K15
  replace YB := YB.keep K15
  replace B := B.keep K15 (nin1 ne_b_o)
  replace O := O.keep K15 (allS ge_o (all0))
  replace KP := KP.trans K15 (allS (Or.inl (List.mem_of_getElem? (i := 0) rfl)) (all0))
  obtain ⟨E, YB, FV, FC, ⟨zN', hN', FN⟩, ⟨f', B, hf'⟩, hcu⟩ := BLu
  obtain rfl : zN = zN' := of_toInt (by rw [hN, hN'])
  show Go Γ n0 _ T (mkF Γ.m 18 #[.val (.ref o), .val (.int (0 : Int32)), .unset, .unset] [])
  refine k_aloadN G X d56_18 (pc' := 19) rfl rfl rfl ?_
  refine k_getF G X (host := "") (Or.inl (w57 hw)) Via.refl FN d56_19 (pc' := 22) rfl (fun T X => ?_)
  refine k_istoreN G X d56_22 (pc' := 23) rfl (l' := #[.val (.ref o), .val (.int (0 : Int32)), .val (.int zN), .unset]) rfl ?_
  refine k_aloadN G X d56_23 (pc' := 24) rfl rfl rfl ?_
  refine k_getF G X (host := "") (Or.inl (w31 hw)) Via.refl FV d56_24 (pc' := 27) rfl (fun T X => ?_)
  refine k_astoreN G X d56_27 (pc' := 28) rfl rfl (l' := #[.val (.ref o), .val (.int (0 : Int32)), .val (.int zN), .val (.ref u)]) rfl ?_
  refine k_aloadN G X d56_28 (pc' := 29) rfl rfl rfl ?_
  refine k_callV G X (argsL := []) (rest := []) rfl E (w73 hw) (w74 hw) (nf_sel (w76 hw)) (w76 hw) (w75 hw) (w25 hw) (w77 hw) (by decide) (sb_lat hw o cs h15 n0 _ FC S_CS hcs) d56_29 pd3 rfl (pc' := 32) rfl rfl (wd := 0) rfl (by decide) (by decide) (by decide) (by decide) (fun T h29 v sf29 X q => ?_)
  replace X := W.drop X
  obtain ⟨rfl, e29⟩ := q
  replace X := X.eq e29
  show Go Γ n0 _ T (mkF Γ.m 32 #[.val (.ref o), .val (.int (0 : Int32)), .val (.int zN), .val (.ref u)] [(.int (1 : Int32))])
  refine k_if_eq G X d56_32 (pc' := 117) rfl (by decide) (pc'' := 35) rfl (fun c32 => (absurd c32 (by decide))) (fun c32 => ?_)
  refine k_iloadN G X d56_35 (pc' := 36) rfl rfl ?_
  refine k_if_eq G X d56_36 (pc' := 74) rfl (by decide) (pc'' := 39) rfl (fun c36 => ?_) (fun c36 => (absurd c36 (by decide)))
  refine k_aloadN G X d56_74 (pc' := 75) rfl rfl rfl ?_
  refine k_iloadN G X d56_75 (pc' := 76) rfl rfl ?_
  refine k_iinc G X d56_76 (pc' := 79) rfl rfl (z := (zN + (1 : Int32))) rfl (l' := #[.val (.ref o), .val (.int (0 : Int32)), .val (.int (zN + (1 : Int32))), .val (.ref u)]) rfl ?_
  refine k_bipush G X d56_79 (pc' := 81) rfl (z := (102 : Int32)) (by decide) ?_
  refine k_bastore G X (i := L.length) (z := (102 : Int32)) B hN0 (by omega) (by decide) ge_u (List.mem_of_getElem? (i := 0) rfl) d56_81 (pc' := 82) rfl (fun T h81 W81 B X => ?_)
  replace O := O.wr W81 ge_u
  replace KP := KP.wr W81 in_u
  replace S_CS := S_CS.wr W81
  replace E := E.wr W81
  replace YB := YB.wr W81
  replace FV := FV.other W81 (Or.inl (Ne.symm ne_u_o))
  replace FC := FC.other W81 (Or.inl (Ne.symm ne_u_o))
  replace FN := FN.other W81 (Or.inl (Ne.symm ne_u_o))
  refine k_aloadN G X d56_82 (pc' := 83) rfl rfl rfl ?_
  refine k_iloadN G X d56_83 (pc' := 84) rfl rfl ?_
  refine k_iinc G X d56_84 (pc' := 87) rfl rfl (z := ((zN + (1 : Int32)) + (1 : Int32))) rfl (l' := #[.val (.ref o), .val (.int (0 : Int32)), .val (.int ((zN + (1 : Int32)) + (1 : Int32))), .val (.ref u)]) rfl ?_
  refine k_bipush G X d56_87 (pc' := 89) rfl (z := (97 : Int32)) (by decide) ?_
  refine k_bastore G X (i := (L.length + 1)) (z := (97 : Int32)) B hN1 (by omega) (by decide) ge_u (List.mem_of_getElem? (i := 0) rfl) d56_89 (pc' := 90) rfl (fun T h89 W89 B X => ?_)
  replace O := O.wr W89 ge_u
  replace KP := KP.wr W89 in_u
  replace S_CS := S_CS.wr W89
  replace E := E.wr W89
  replace YB := YB.wr W89
  replace FV := FV.other W89 (Or.inl (Ne.symm ne_u_o))
  replace FC := FC.other W89 (Or.inl (Ne.symm ne_u_o))
  replace FN := FN.other W89 (Or.inl (Ne.symm ne_u_o))
  refine k_aloadN G X d56_90 (pc' := 91) rfl rfl rfl ?_
  refine k_iloadN G X d56_91 (pc' := 92) rfl rfl ?_
  refine k_iinc G X d56_92 (pc' := 95) rfl rfl (z := (((zN + (1 : Int32)) + (1 : Int32)) + (1 : Int32))) rfl (l' := #[.val (.ref o), .val (.int (0 : Int32)), .val (.int (((zN + (1 : Int32)) + (1 : Int32)) + (1 : Int32))), .val (.ref u)]) rfl ?_
  refine k_bipush G X d56_95 (pc' := 97) rfl (z := (108 : Int32)) (by decide) ?_
  refine k_bastore G X (i := (L.length + 2)) (z := (108 : Int32)) B hN2 (by omega) (by decide) ge_u (List.mem_of_getElem? (i := 0) rfl) d56_97 (pc' := 98) rfl (fun T h97 W97 B X => ?_)
  replace O := O.wr W97 ge_u
  replace KP := KP.wr W97 in_u
  replace S_CS := S_CS.wr W97
  replace E := E.wr W97
  replace YB := YB.wr W97
  replace FV := FV.other W97 (Or.inl (Ne.symm ne_u_o))
  replace FC := FC.other W97 (Or.inl (Ne.symm ne_u_o))
  replace FN := FN.other W97 (Or.inl (Ne.symm ne_u_o))
  refine k_aloadN G X d56_98 (pc' := 99) rfl rfl rfl ?_
  refine k_iloadN G X d56_99 (pc' := 100) rfl rfl ?_
  refine k_iinc G X d56_100 (pc' := 103) rfl rfl (z := ((((zN + (1 : Int32)) + (1 : Int32)) + (1 : Int32)) + (1 : Int32))) rfl (l' := #[.val (.ref o), .val (.int (0 : Int32)), .val (.int ((((zN + (1 : Int32)) + (1 : Int32)) + (1 : Int32)) + (1 : Int32))), .val (.ref u)]) rfl ?_
  refine k_bipush G X d56_103 (pc' := 105) rfl (z := (115 : Int32)) (by decide) ?_
  refine k_bastore G X (i := (L.length + 3)) (z := (115 : Int32)) B hN3 (by omega) (by decide) ge_u (List.mem_of_getElem? (i := 0) rfl) d56_105 (pc' := 106) rfl (fun T h105 W105 B X => ?_)
  replace O := O.wr W105 ge_u
  replace KP := KP.wr W105 in_u
  replace S_CS := S_CS.wr W105
  replace E := E.wr W105
  replace YB := YB.wr W105
  replace FV := FV.other W105 (Or.inl (Ne.symm ne_u_o))
  replace FC := FC.other W105 (Or.inl (Ne.symm ne_u_o))
  replace FN := FN.other W105 (Or.inl (Ne.symm ne_u_o))
  refine k_aloadN G X d56_106 (pc' := 107) rfl rfl rfl ?_
  refine k_iloadN G X d56_107 (pc' := 108) rfl rfl ?_
  refine k_iinc G X d56_108 (pc' := 111) rfl rfl (z := (((((zN + (1 : Int32)) + (1 : Int32)) + (1 : Int32)) + (1 : Int32)) + (1 : Int32))) rfl (l' := #[.val (.ref o), .val (.int (0 : Int32)), .val (.int (((((zN + (1 : Int32)) + (1 : Int32)) + (1 : Int32)) + (1 : Int32)) + (1 : Int32))), .val (.ref u)]) rfl ?_
  refine k_bipush G X d56_111 (pc' := 113) rfl (z := (101 : Int32)) (by decide) ?_
  refine k_bastore G X (i := (L.length + 4)) (z := (101 : Int32)) B hN4 (by omega) (by decide) ge_u (List.mem_of_getElem? (i := 0) rfl) d56_113 (pc' := 114) rfl (fun T h113 W113 B X => ?_)
  replace O := O.wr W113 ge_u
  replace KP := KP.wr W113 in_u
  replace S_CS := S_CS.wr W113
  replace E := E.wr W113
  replace YB := YB.wr W113
  replace FV := FV.other W113 (Or.inl (Ne.symm ne_u_o))
  replace FC := FC.other W113 (Or.inl (Ne.symm ne_u_o))
  replace FN := FN.other W113 (Or.inl (Ne.symm ne_u_o))
  refine k_goto G X d56_114 (by decide) (pc' := 154) rfl ?_
  refine k_aloadN G X d56_154 (pc' := 155) rfl rfl rfl ?_
  refine k_iloadN G X d56_155 (pc' := 156) rfl rfl ?_
  refine k_putF G X (host := "") (Or.inl (w57 hw)) Via.refl FN E (Or.inl (w58 hw)) (w11 hw) (ty := .int) (by decide) rfl rfl ge_o (List.mem_append_right [u] gm_o.2) d56_156 (pc' := 159) rfl (fun T h156 W156 X => ?_)
  replace O := O.wr W156 ge_o
  replace KP := KP.wr W156 (Or.inl (List.mem_of_getElem? (i := 0) rfl))
  replace S_CS := S_CS.wr W156
  replace E := E.wr W156
  replace YB := YB.wr W156
  replace FV := FV.other W156 (Or.inr (slot_ne (Or.inl (w32 hw)) (Or.inl (w58 hw)) (by decide) (t := (.array .byte)) (t' := .int) (by decide) (by decide)))
  replace FC := FC.other W156 (Or.inr (slot_ne (Or.inl (w34 hw)) (Or.inl (w58 hw)) (by decide) (t := .byte) (t' := .int) (by decide) (by decide)))
  replace FN := FN.same W156
  replace B := B.other W156 ne_u_o
  refine k_aloadN G X d56_159 (pc' := 160) rfl rfl rfl ?_
  refine k_reta G X d56_160 (t := (.object "java/lang/AbstractStringBuilder")) rfl rfl rfl ?_ (by decide) (by decide)
  exact ⟨rfl, KP, u, ku, cu, Bld.mkG (D := [102, 97, 108, 115, 101]) E YB FV FC (by first | exact hN5 | simpa using hN0) FN B (fun i hi => by simp only [if_neg (show ¬ i = L.length by omega), if_neg (show ¬ i = L.length + 1 by omega), if_neg (show ¬ i = L.length + 2 by omega), if_neg (show ¬ i = L.length + 3 by omega), if_neg (show ¬ i = L.length + 4 by omega)]; rw [hf' i hi]) (fun i hi => by rcases (by simp at hi; omega : i = 0 ∨ i = 1 ∨ i = 2 ∨ i = 3 ∨ i = 4) with rfl | rfl | rfl | rfl | rfl <;> simp) (by simp; omega), hu, ge_u, (List.mem_of_getElem? (i := 0) rfl)⟩
set_option maxRecDepth 65536 in
set_option maxHeartbeats 40000000 in
theorem sb_az0 {Z : State} {a0 : Array Value} (hw : HW a0 Z) (o b : Addr) (k : ClassId) (cap : Nat) (L : List Int32) (cs : Int32) (h0 : Heap) (n0 : Nat) (sf0 : List Addr) (gm_o : n0 ≤ o ∧ o ∈ sf0) (gm_b : n0 ≤ b ∧ b ∈ sf0) (O : Old Z n0 h0) (BL : Bld Z h0 o b k cap L) (S_CS : Sta Z h0 "java/lang/String" "COMPACT_STRINGS" "Z" (.int cs)) (hcs : cs ≠ 0) (hL : L.length + 5 ≤ 32) :
    MetW Z consts_1 sf0 (⟨"java/lang/StringBuilder", "append", "(Z)Ljava/lang/StringBuilder;"⟩ : MethodName) jdk_67_method_13_code 2 (some (.object "java/lang/StringBuilder")) [] ({ frames := 5, cells := 1, slots := 64, locals := 77 } : Room) #[(.ref o), (.int (0 : Int32))] h0 n0 (fun v h sf => v = some (.ref o) ∧ Keep h0 h [o, b] ∧ ∃ u ku cu, Bld Z h o u ku cu (L ++ [102, 97, 108, 115, 101]) ∧ (u = b ∨ h0.size ≤ u) ∧ n0 ≤ u ∧ u ∈ sf) := by
  refine k_body (hEW hw) (f := (fun m => mkF m 0 #[.val (.ref o), .val (.int (0 : Int32))] [])) pn_55 (fun m => by first | (simp [entryFrame, mkF, argsToLocals, Value.category, maxLocals]; done) | rfl) ?_
  intro Γ T G X
  have ge_o := gm_o.1
  have ge_b := gm_b.1
  obtain ⟨E, YB, FV, FC, ⟨zN, hN, FN⟩, ⟨f, B, hf⟩, hcap⟩ := id BL
  have ne_b_o : b ≠ o := BL.ne
  obtain ⟨zC, hC⟩ : ∃ z : Int32, z.toInt = cap := ⟨cap.toInt32, len_toInt B.size_lt⟩
  have e1 : (1 : Int32).toInt = 1 := rfl
  show Go Γ n0 _ T (mkF Γ.m 0 #[.val (.ref o), .val (.int (0 : Int32))] [])
  refine k_aloadN G X d55_0 (pc' := 1) rfl rfl rfl ?_
  refine k_iloadN G X d55_1 (pc' := 2) rfl rfl ?_
  refine k_callU G X (argsL := [(.int (0 : Int32))]) (rest := []) rfl (Ins.self E) (w303 hw) (smD (w304 hw) ((nf_sib (y := (⟨"java/lang/AbstractStringBuilder", "append", "(Z)Ljava/lang/AbstractStringBuilder;"⟩ : MethodName)) (w71 hw) (w69 hw) rfl) Z (State.Warmed39.refl Z)) (by decide)) (w304 hw) (w54 hw) (by decide) (w25 hw) (w306 hw) (sb_az10 hw o b k cap L cs h0 n0 _ ⟨ge_o, (List.mem_append_right [] gm_o.2)⟩ ⟨ge_b, (List.mem_append_right [] gm_b.2)⟩ O BL S_CS hcs hL) d55_2 pd25 rfl (pc' := 5) rfl rfl (wd := 0) rfl (by decide) (by decide) (by decide) (by decide) (fun T h2 v sf2 X q => ?_)
  obtain ⟨rfl, KQ, u, ku, cu, BLu, hu, ge_u, mu⟩ := q
  replace X := W.only X mu
  show Go Γ n0 _ T (mkF Γ.m 5 #[.val (.ref o), .val (.int (0 : Int32))] [(.ref o)])
  refine k_pop G X d55_5 (pc' := 6) rfl rfl ?_
  refine k_aloadN G X d55_6 (pc' := 7) rfl rfl rfl ?_
  refine k_reta G X d55_7 (t := (.object "java/lang/StringBuilder")) rfl rfl rfl ?_ (by decide) (by decide)
  exact ⟨rfl, KQ, u, ku, cu, BLu, hu, ge_u, (List.mem_of_getElem? (i := 0) rfl)⟩
theorem pn_18 : plainFor (⟨"java/lang/AbstractStringBuilder", "charAt", "(I)C"⟩ : MethodName) = true := plainFor_of_name (by first | (simp [plainName, overriddenIn]; done) | decide +kernel)
set_option maxRecDepth 65536 in
set_option maxHeartbeats 40000000 in
theorem sb_at1 {Z : State} {a0 : Array Value} (hw : HW a0 Z) (o b : Addr) (k : ClassId) (cap i : Nat) (L : List Int32) (j x : Int32) (fm : Value) (h0 : Heap) (n0 : Nat) (sf0 : List Addr) (BL : Bld Z h0 o b k cap L) (hji : j.toInt = i) (hi : i < L.length) (hx : L.getD i 0 = x) (hx0 : 0 ≤ x.toInt) (hx1 : x.toInt ≤ 127) (S_FM : Sta Z h0 "jdk/internal/util/Preconditions" "SIOOBE_FORMATTER" "Ljava/util/function/BiFunction;" fm) (hfm : fm.isRef = true) :
    MetW Z consts_1 sf0 (⟨"java/lang/AbstractStringBuilder", "charAt", "(I)C"⟩ : MethodName) jdk_68_method_14_code 5 (some .char) [] ({ frames := 2, cells := 0, slots := 0, locals := 27 } : Room) #[(.ref o), (.int j)] h0 n0 (fun v h sf => v = some (.int x) ∧ h = h0) := by
  refine k_body (hEW hw) (f := (fun m => mkF m 0 #[.val (.ref o), .val (.int j), .unset, .unset, .unset] [])) pn_18 (fun m => by first | (simp [entryFrame, mkF, argsToLocals, Value.category, maxLocals]; done) | rfl) ?_
  intro Γ T G X
  obtain ⟨E, YB, FV, FC, ⟨zN, hN, FN⟩, ⟨f, B, hf⟩, hcap⟩ := id BL
  have ne_b_o : b ≠ o := BL.ne
  obtain ⟨zC, hC⟩ : ∃ z : Int32, z.toInt = cap := ⟨cap.toInt32, len_toInt B.size_lt⟩
  have e1 : (1 : Int32).toInt = 1 := rfl
  have hj : 0 ≤ j.toInt := by omega
  have hjz : j.toInt < zN.toInt := by omega
  show Go Γ n0 _ T (mkF Γ.m 0 #[.val (.ref o), .val (.int j), .unset, .unset, .unset] [])
  refine k_aloadN G X d18_0 (pc' := 1) rfl rfl rfl ?_
  refine k_getF G X (host := "") (Or.inl (w33 hw)) Via.refl FC d18_1 (pc' := 4) rfl (fun T X => ?_)
  refine k_istoreN G X d18_4 (pc' := 5) rfl (l' := #[.val (.ref o), .val (.int j), .val (.int (0 : Int32)), .unset, .unset]) rfl ?_
  refine k_aloadN G X d18_5 (pc' := 6) rfl rfl rfl ?_
  refine k_getF G X (host := "") (Or.inl (w31 hw)) Via.refl FV d18_6 (pc' := 9) rfl (fun T X => ?_)
  refine k_astoreN G X d18_9 (pc' := 10) rfl rfl (l' := #[.val (.ref o), .val (.int j), .val (.int (0 : Int32)), .val (.ref b), .unset]) rfl ?_
  refine k_aloadN G X d18_10 (pc' := 11) rfl rfl rfl ?_
  refine k_getF G X (host := "") (Or.inl (w57 hw)) Via.refl FN d18_11 (pc' := 14) rfl (fun T X => ?_)
  refine k_aloadN G X d18_14 (pc' := 15) rfl rfl rfl ?_
  refine k_alen G X (z := zC) B hC d18_15 (pc' := 16) rfl ?_
  refine k_iloadN G X d18_16 (pc' := 17) rfl rfl ?_
  refine k_ishr G X d18_17 (pc' := 18) rfl rfl ?_
  rw [shr0 zC]
  refine k_callS G X (argsL := [(.int zN), (.int zC)]) (rest := []) rfl (w106 hw) (w107 hw) (w16 hw) (w108 hw) (by decide) (m_min hw zN zC h0 n0 _) d18_18 pd6 rfl (pc' := 21) rfl rfl (wd := 0) rfl (by decide) (by decide) (by decide) (by decide) (fun T h18 v sf18 X q => ?_)
  replace X := W.drop X
  obtain ⟨r18, rfl, q1, q2, e18⟩ := q
  replace X := X.eq e18
  obtain rfl : zN = r18 := of_toInt (by omega)
  show Go Γ n0 _ T (mkF Γ.m 21 #[.val (.ref o), .val (.int j), .val (.int (0 : Int32)), .val (.ref b), .unset] [(.int zN)])
  refine k_istore G X d18_21 (pc' := 23) rfl (l' := #[.val (.ref o), .val (.int j), .val (.int (0 : Int32)), .val (.ref b), .val (.int zN)]) rfl ?_
  refine k_iloadN G X d18_23 (pc' := 24) rfl rfl ?_
  refine k_iload G X d18_24 (pc' := 26) rfl rfl ?_
  refine k_callS G X (argsL := [(.int j), (.int zN)]) (rest := []) rfl (w109 hw) (w110 hw) (w29 hw) (w111 hw) (by decide) (str_chk hw j zN fm h0 n0 _ hj hjz S_FM hfm) d18_26 pd2 rfl (pc' := 29) rfl rfl (wd := 0) rfl (by decide) (by decide) (by decide) (by decide) (fun T h26 v sf26 X q => ?_)
  replace X := W.drop X
  obtain ⟨rfl, e26⟩ := q
  replace X := X.eq e26
  show Go Γ n0 _ T (mkF Γ.m 29 #[.val (.ref o), .val (.int j), .val (.int (0 : Int32)), .val (.ref b), .val (.int zN)] [])
  refine k_iloadN G X d18_29 (pc' := 30) rfl rfl ?_
  refine k_if_ne G X d18_30 (pc' := 42) rfl (by decide) (pc'' := 33) rfl (fun c30 => (absurd c30 (by decide))) (fun c30 => ?_)
  refine k_aloadN G X d18_33 (pc' := 34) rfl rfl rfl ?_
  refine k_iloadN G X d18_34 (pc' := 35) rfl rfl ?_
  refine k_baload G X (i := i) (v := (.int (f i))) B hji (by omega) rfl d18_35 (pc' := 36) rfl ?_
  refine k_sipush G X d18_36 (pc' := 39) rfl (z := (255 : Int32)) (by decide) ?_
  refine k_iand G X d18_39 (pc' := 40) rfl rfl ?_
  refine k_i2c G X d18_40 (pc' := 41) rfl rfl ?_
  have hr := chr_of (f i)
  obtain ⟨y, qy⟩ : ∃ y, (((f i) &&& (255 : Int32)).toUInt32.toUInt16.toUInt32.toInt32) = y := ⟨_, rfl⟩
  rw [qy] at hr ⊢
  obtain rfl : x = y := of_toInt (by rw [hr, hf i hi, hx]; omega)
  have hnr : narrow .char (.int x) = .int x := nr_char (by omega) (by omega)
  refine k_retb G X d18_41 (t := .char) rfl (by simp) hnr ?_ (by decide) (by decide)
  exact ⟨rfl, rfl⟩
theorem pn_17 : plainFor (⟨"java/lang/StringBuilder", "charAt", "(I)C"⟩ : MethodName) = true := plainFor_of_name (by first | (simp [plainName, overriddenIn]; done) | decide +kernel)
set_option maxRecDepth 65536 in
set_option maxHeartbeats 40000000 in
theorem sb_at {Z : State} {a0 : Array Value} (hw : HW a0 Z) (o b : Addr) (k : ClassId) (cap i : Nat) (L : List Int32) (j x : Int32) (fm : Value) (h0 : Heap) (n0 : Nat) (sf0 : List Addr) (BL : Bld Z h0 o b k cap L) (hji : j.toInt = i) (hi : i < L.length) (hx : L.getD i 0 = x) (hx0 : 0 ≤ x.toInt) (hx1 : x.toInt ≤ 127) (S_FM : Sta Z h0 "jdk/internal/util/Preconditions" "SIOOBE_FORMATTER" "Ljava/util/function/BiFunction;" fm) (hfm : fm.isRef = true) :
    MetW Z consts_1 sf0 (⟨"java/lang/StringBuilder", "charAt", "(I)C"⟩ : MethodName) jdk_67_method_88_code 2 (some .char) [] ({ frames := 3, cells := 0, slots := 0, locals := 43 } : Room) #[(.ref o), (.int j)] h0 n0 (fun v h sf => v = some (.int x) ∧ h = h0) := by
  refine k_body (hEW hw) (f := (fun m => mkF m 0 #[.val (.ref o), .val (.int j)] [])) pn_17 (fun m => by first | (simp [entryFrame, mkF, argsToLocals, Value.category, maxLocals]; done) | rfl) ?_
  intro Γ T G X
  obtain ⟨E, YB, FV, FC, ⟨zN, hN, FN⟩, ⟨f, B, hf⟩, hcap⟩ := id BL
  have ne_b_o : b ≠ o := BL.ne
  obtain ⟨zC, hC⟩ : ∃ z : Int32, z.toInt = cap := ⟨cap.toInt32, len_toInt B.size_lt⟩
  have e1 : (1 : Int32).toInt = 1 := rfl
  show Go Γ n0 _ T (mkF Γ.m 0 #[.val (.ref o), .val (.int j)] [])
  refine k_aloadN G X d17_0 (pc' := 1) rfl rfl rfl ?_
  refine k_iloadN G X d17_1 (pc' := 2) rfl rfl ?_
  refine k_callU G X (argsL := [(.int j)]) (rest := []) rfl (Ins.self E) (w102 hw) (smD (w103 hw) ((nf_sib (y := (⟨"java/lang/AbstractStringBuilder", "charAt", "(I)C"⟩ : MethodName)) (w71 hw) (w69 hw) rfl) Z (State.Warmed39.refl Z)) (by decide)) (w103 hw) (w54 hw) (by decide) (w25 hw) (w105 hw) (sb_at1 hw o b k cap i L j x fm h0 n0 _ BL hji hi hx hx0 hx1 S_FM hfm) d17_2 pd26 rfl (pc' := 5) rfl rfl (wd := 0) rfl (by decide) (by decide) (by decide) (by decide) (fun T h2 v sf2 X q => ?_)
  replace X := W.drop X
  obtain ⟨rfl, e2⟩ := q
  replace X := X.eq e2
  show Go Γ n0 _ T (mkF Γ.m 5 #[.val (.ref o), .val (.int j)] [(.int x)])
  refine k_retb G X d17_5 (t := .char) rfl (by simp) (nr_char (by omega) (by omega)) ?_ (by decide) (by decide)
  exact ⟨rfl, rfl⟩
theorem pn_5 : plainFor (⟨"java/lang/AbstractStringBuilder", "<init>", "(I)V"⟩ : MethodName) = true := plainFor_of_name (by first | (simp [plainName, overriddenIn]; done) | decide +kernel)
set_option maxRecDepth 65536 in
set_option maxHeartbeats 40000000 in
theorem sbi2 {Z : State} {a0 : Array Value} (hw : HW a0 Z) (o : Addr) (z cs : Int32) (n : Nat) (h0 : Heap) (n0 : Nat) (sf0 : List Addr) (gm_o : n0 ≤ o ∧ o ∈ sf0) (O : Old Z n0 h0) (E : Exa Z h0 o "java/lang/StringBuilder") (FV : Fld Z h0 o "java/lang/AbstractStringBuilder" "value" "[B" .null) (FC : Fld Z h0 o "java/lang/AbstractStringBuilder" "coder" "B" (.int (0 : Int32))) (FN : Fld Z h0 o "java/lang/AbstractStringBuilder" "count" "I" (.int (0 : Int32))) (S_CS : Sta Z h0 "java/lang/String" "COMPACT_STRINGS" "Z" (.int cs)) (hcs : cs ≠ 0) (hz : z.toInt = n) (hn : n ≤ 65535) :
    MetW Z consts_1 sf0 (⟨"java/lang/AbstractStringBuilder", "<init>", "(I)V"⟩ : MethodName) jdk_68_method_2_code 2 none [] ({ frames := 1, cells := 1, slots := 65535, locals := 12 } : Room) #[(.ref o), (.int z)] h0 n0 (fun v h sf => v = none ∧ Keep h0 h [o] ∧ ∃ b k, h0.size ≤ b ∧ Bld Z h o b k n [] ∧ b ∈ sf) := by
  refine k_body (hEW hw) (f := (fun m => mkF m 0 #[.val (.ref o), .val (.int z)] [])) pn_5 (fun m => by first | (simp [entryFrame, mkF, argsToLocals, Value.category, maxLocals]; done) | rfl) ?_
  intro Γ T G X
  have ge_o := gm_o.1
  have KP := Keep.refl h0 [o]
  show Go Γ n0 _ T (mkF Γ.m 0 #[.val (.ref o), .val (.int z)] [])
  refine k_aloadN G X d5_0 (pc' := 1) rfl rfl rfl ?_
  refine k_initO G X (w27 hw) (w8 hw) (w9 hw) d5_1 (pc' := 4) rfl rfl (by decide) (wd := 0) rfl (by decide) (fun T X => ?_)
  refine k_getS G X (host := "") (Or.inl (w28 hw)) Via.refl S_CS d5_4 (pc' := 7) rfl (fun T X => ?_)
  refine k_if_eq G X d5_7 (pc' := 25) rfl (by decide) (pc'' := 10) rfl (fun c7 => (absurd c7 hcs)) (fun c7 => ?_)
  refine k_aloadN G X d5_10 (pc' := 11) rfl rfl rfl ?_
  refine k_iloadN G X d5_11 (pc' := 12) rfl rfl ?_
  refine k_newPE G X (aty := .byte) (n := n) (cap := 65535) (w30 hw) (ad := "[B") (by decide) d5_12 (pc' := 14) rfl hz hn (by decide) (by decide) (by decide) (fun T h12 b12 k12 s_b12 E12 A_b12 Y_b12 X => ?_)
  have ne_o_b12 : o ≠ b12 := Nat.ne_of_lt (Nat.lt_of_lt_of_eq E.lt s_b12)
  have ge_b12 : n0 ≤ b12 := Nat.le_trans (Jvm.OwnK.Old_le O) (Nat.le_of_eq s_b12)
  have sz_b12 : h0.size ≤ b12 := Nat.le_trans KP.1 (Nat.le_of_eq s_b12)
  replace E := E.ext E12
  replace O := O.ext E12
  replace FV := FV.ext E12
  replace FC := FC.ext E12
  replace FN := FN.ext E12
  replace KP := KP.ext E12
  replace S_CS := S_CS.ext E12
  replace A_b12 : Arf Z h12 b12 k12 .byte n (fun _ => (.int (0 : Int32))) := A_b12
  refine k_putF G X (host := "") (Or.inl (w31 hw)) Via.refl FV E (Or.inl (w32 hw)) (w11 hw) (ty := (.array .byte)) (by decide) rfl rfl ge_o (List.mem_append_right [b12] gm_o.2) d5_14 (pc' := 17) rfl (fun T h14 W14 X => ?_)
  replace E := E.wr W14
  replace O := O.wr W14 ge_o
  replace FV := FV.same W14
  replace FC := FC.other W14 (Or.inr (slot_ne (Or.inl (w34 hw)) (Or.inl (w32 hw)) (by decide) (t := .byte) (t' := (.array .byte)) (by decide) (by decide)))
  replace FN := FN.other W14 (Or.inr (slot_ne (Or.inl (w58 hw)) (Or.inl (w32 hw)) (by decide) (t := .int) (t' := (.array .byte)) (by decide) (by decide)))
  replace KP := KP.wr W14 (Or.inl (List.mem_of_getElem? (i := 0) rfl))
  replace S_CS := S_CS.wr W14
  replace A_b12 := A_b12.other W14 (Ne.symm ne_o_b12)
  replace Y_b12 := Y_b12.wr W14
  refine k_aloadN G X d5_17 (pc' := 18) rfl rfl rfl ?_
  refine k_iconst G X d5_18 (pc' := 19) rfl (z := (0 : Int32)) (by decide) ?_
  refine k_putFN G X (w33 hw) Via.refl FC E (Or.inl (w34 hw)) (w11 hw) (ty := .byte) (v' := (.int (0 : Int32))) (by decide) rfl rfl ge_o (List.mem_append_right [b12] gm_o.2) d5_19 (pc' := 22) rfl (fun T h19 W19 X => ?_)
  replace E := E.wr W19
  replace O := O.wr W19 ge_o
  replace FV := FV.other W19 (Or.inr (slot_ne (Or.inl (w32 hw)) (Or.inl (w34 hw)) (by decide) (t := (.array .byte)) (t' := .byte) (by decide) (by decide)))
  replace FC := FC.same W19
  replace FN := FN.other W19 (Or.inr (slot_ne (Or.inl (w58 hw)) (Or.inl (w34 hw)) (by decide) (t := .int) (t' := .byte) (by decide) (by decide)))
  replace KP := KP.wr W19 (Or.inl (List.mem_of_getElem? (i := 0) rfl))
  replace S_CS := S_CS.wr W19
  replace A_b12 := A_b12.other W19 (Ne.symm ne_o_b12)
  replace Y_b12 := Y_b12.wr W19
  refine k_goto G X d5_22 (by decide) (pc' := 38) rfl ?_
  refine k_retv G X d5_38 rfl ?_ (by decide) (by decide)
  exact ⟨rfl, KP, b12, k12, sz_b12, ⟨E, Y_b12, FV, FC, ⟨0, rfl, FN⟩, ⟨fun _ => 0, A_b12, fun i hi => absurd hi (Nat.not_lt_zero _)⟩, Nat.zero_le _⟩, (List.mem_of_getElem? (i := 0) rfl)⟩
theorem pn_4 : plainFor (⟨"java/lang/StringBuilder", "<init>", "(I)V"⟩ : MethodName) = true := plainFor_of_name (by first | (simp [plainName, overriddenIn]; done) | decide +kernel)
set_option maxRecDepth 65536 in
set_option maxHeartbeats 40000000 in
theorem sbi1 {Z : State} {a0 : Array Value} (hw : HW a0 Z) (o : Addr) (z cs : Int32) (n : Nat) (h0 : Heap) (n0 : Nat) (sf0 : List Addr) (gm_o : n0 ≤ o ∧ o ∈ sf0) (O : Old Z n0 h0) (E : Exa Z h0 o "java/lang/StringBuilder") (FV : Fld Z h0 o "java/lang/AbstractStringBuilder" "value" "[B" .null) (FC : Fld Z h0 o "java/lang/AbstractStringBuilder" "coder" "B" (.int (0 : Int32))) (FN : Fld Z h0 o "java/lang/AbstractStringBuilder" "count" "I" (.int (0 : Int32))) (S_CS : Sta Z h0 "java/lang/String" "COMPACT_STRINGS" "Z" (.int cs)) (hcs : cs ≠ 0) (hz : z.toInt = n) (hn : n ≤ 65535) :
    MetW Z consts_1 sf0 (⟨"java/lang/StringBuilder", "<init>", "(I)V"⟩ : MethodName) jdk_67_method_2_code 2 none [] ({ frames := 2, cells := 1, slots := 65535, locals := 25 } : Room) #[(.ref o), (.int z)] h0 n0 (fun v h sf => v = none ∧ Keep h0 h [o] ∧ ∃ b k, h0.size ≤ b ∧ Bld Z h o b k n [] ∧ b ∈ sf) := by
  refine k_body (hEW hw) (f := (fun m => mkF m 0 #[.val (.ref o), .val (.int z)] [])) pn_4 (fun m => by first | (simp [entryFrame, mkF, argsToLocals, Value.category, maxLocals]; done) | rfl) ?_
  intro Γ T G X
  have ge_o := gm_o.1
  have KP := Keep.refl h0 [o]
  show Go Γ n0 _ T (mkF Γ.m 0 #[.val (.ref o), .val (.int z)] [])
  refine k_aloadN G X d4_0 (pc' := 1) rfl rfl rfl ?_
  refine k_iloadN G X d4_1 (pc' := 2) rfl rfl ?_
  refine k_callI G X (argsL := [(.int z)]) (rest := []) rfl rfl (w21 hw) (w22 hw) (w25 hw) (w26 hw) (by decide) (sbi2 hw o z cs n h0 n0 _ ⟨ge_o, (List.mem_append_right [] gm_o.2)⟩ O E FV FC FN S_CS hcs hz hn) d4_2 pd15 rfl (pc' := 5) rfl rfl (wd := 0) rfl (by decide) (by decide) (by decide) (by decide) (fun T h2 v sf2 X q => ?_)
  obtain ⟨rfl, KQ, b, k, sz_b, BL, hmb⟩ := q
  replace X := W.only X hmb
  show Go Γ n0 _ T (mkF Γ.m 5 #[.val (.ref o), .val (.int z)] [])
  refine k_retv G X d4_5 rfl ?_ (by decide) (by decide)
  exact ⟨rfl, KQ, b, k, sz_b, BL, (List.mem_of_getElem? (i := 0) rfl)⟩
theorem pn_61 : plainFor (⟨"java/lang/Long", "stringSize", "(J)I"⟩ : MethodName) = true := plainFor_of_name (by first | (simp [plainName, overriddenIn]; done) | decide +kernel)
set_option maxRecDepth 65536 in
set_option maxHeartbeats 40000000 in
theorem lsz {Z : State} {a0 : Array Value} (hw : HW a0 Z) (x : Int64) (h0 : Heap) (n0 : Nat) (sf0 : List Addr) :
    MetW Z consts_1 sf0 (⟨"java/lang/Long", "stringSize", "(J)I"⟩ : MethodName) jdk_35_method_15_code 6 (some .int) [] ({ frames := 0, cells := 0, slots := 0, locals := 0 } : Room) #[(.long x)] h0 n0 (fun v h sf => ∃ (r : Int32) (kd : Nat), v = some (.int r) ∧ r.toInt = (sgn x + kd : Nat) ∧ 1 ≤ kd ∧ kd ≤ 19 ∧ x.toInt.natAbs < 10 ^ kd ∧ h = h0) := by
  refine k_body (hEW hw) (f := (fun m => mkF m 0 #[.val (.long x), .second, .unset, .unset, .unset, .unset] [])) pn_61 (fun m => by first | (simp [entryFrame, mkF, argsToLocals, Value.category, maxLocals]; done) | rfl) ?_
  intro Γ T G X
  have e1 : (1 : Int32).toInt = 1 := rfl
  have e19 : (19 : Int32).toInt = 19 := rfl
  have ez : (0 : Int64).toInt = 0 := rfl
  have hsg := sgn_le x
  show Go Γ n0 _ T (mkF Γ.m 0 #[.val (.long x), .second, .unset, .unset, .unset, .unset] [])
  refine k_iconst G X d61_0 (pc' := 1) rfl (z := (1 : Int32)) (by decide) ?_
  refine k_istoreN G X d61_1 (pc' := 2) rfl (l' := #[.val (.long x), .second, .val (.int (1 : Int32)), .unset, .unset, .unset]) rfl ?_
  have J13 : ∀ (T : State) (y : Int64) (d : Int32), (y.toInt = -(x.toInt.natAbs : Int)) → (d.toInt = (sgn x : Nat)) → W Γ n0 T h0 0 0 (sf0) → Go Γ n0 (fun v h sf => ∃ (r : Int32) (kd : Nat), v = some (.int r) ∧ r.toInt = (sgn x + kd : Nat) ∧ 1 ≤ kd ∧ kd ≤ 19 ∧ x.toInt.natAbs < 10 ^ kd ∧ h = h0) T (mkF Γ.m 13 #[.val (.long y), .second, .val (.int d), .unset, .unset, .unset] []) := by
    intro T y d hy hd X
    refine k_ldcL G X (w332 hw) d61_13 (pc' := 16) rfl ?_
    refine k_lstoreN G X d61_16 (pc' := 17) rfl (l' := #[.val (.long y), .second, .val (.int d), .val (.long (-10 : Int64)), .second, .unset]) rfl ?_
    refine k_iconst G X d61_17 (pc' := 18) rfl (z := (1 : Int32)) (by decide) ?_
    refine k_istore G X d61_18 (pc' := 20) rfl (l' := #[.val (.long y), .second, .val (.int d), .val (.long (-10 : Int64)), .second, .val (.int (1 : Int32))]) rfl ?_
    have LP : ∀ (k : Nat) (T : State) (p : Int64) (i : Int32), (1 ≤ i.toInt ∧ i.toInt ≤ 19) → (i.toInt ≤ 18 → p.toInt = -((10 ^ i.toInt.toNat : Nat) : Int)) → 19 - i.toInt.toNat = k → W Γ n0 T h0 0 0 (sf0) → Go Γ n0 (fun v h sf => ∃ (r : Int32) (kd : Nat), v = some (.int r) ∧ r.toInt = (sgn x + kd : Nat) ∧ 1 ≤ kd ∧ kd ≤ 19 ∧ x.toInt.natAbs < 10 ^ kd ∧ h = h0) T (mkF Γ.m 20 #[.val (.long y), .second, .val (.int d), .val (.long p), .second, .val (.int i)] []) := by
      intro k
      induction k using Nat.strongRecOn with
      | _ k ih =>
        intro T p i hi hp hk X
        refine k_iload G X d61_20 (pc' := 22) rfl rfl ?_
        refine k_bipush G X d61_22 (pc' := 24) rfl (z := (19 : Int32)) (by decide) ?_
        refine k_icmp_ge G X d61_24 (pc' := 50) rfl (by decide) (pc'' := 27) rfl (fun c24 => ?_) (fun c24 => ?_)
        · refine k_bipush G X d61_50 (pc' := 52) rfl (z := (19 : Int32)) (by decide) ?_
          refine k_iloadN G X d61_52 (pc' := 53) rfl rfl ?_
          refine k_iadd G X d61_53 (pc' := 54) rfl rfl ?_
          refine k_reti G X d61_54 rfl ?_ (by decide) (by decide)
          exact ⟨_, 19, rfl, by rw [iadd_toInt (by omega) (by omega)]; omega, by omega, by omega, by have := rgL x; rw [show (10 : Nat) ^ 19 = 10000000000000000000 from rfl]; omega, rfl⟩
        · refine k_lloadN G X d61_27 (pc' := 28) rfl rfl ?_
          refine k_lloadN G X d61_28 (pc' := 29) rfl rfl ?_
          refine k_lcmp G X d61_29 (pc' := 30) rfl rfl ?_
          obtain ⟨cz30, q_cz30⟩ : ∃ z, (if y > p then (1 : Int32) else if y = p then 0 else -1) = z := ⟨_, rfl⟩
          have n_cz30 := lcmp_toInt q_cz30
          rw [q_cz30]
          refine k_if_le G X d61_30 (pc' := 38) rfl (by decide) (pc'' := 33) rfl (fun c30 => ?_) (fun c30 => ?_)
          · have hi1 : (i + (1 : Int32)).toInt = i.toInt + 1 := by rw [iadd_toInt (by omega) (by omega), e1]
            have hp' : (i + (1 : Int32)).toInt ≤ 18 → ((10 : Int64) * p).toInt = -((10 ^ (i + (1 : Int32)).toInt.toNat : Nat) : Int) := fun q => by
              have e := hp (by omega)
              have hb : 10 ^ i.toInt.toNat ≤ 100000000000000000 := Nat.le_trans (Nat.pow_le_pow_right (by decide) (by omega : i.toInt.toNat ≤ 17)) (by decide)
              have m := c_lmul (10 : Int64) p
              have m2 := rgL ((10 : Int64) * p)
              rw [show (10 : Int64).toInt = 10 from rfl, e] at m
              rw [show (i + (1 : Int32)).toInt.toNat = i.toInt.toNat + 1 by omega, Nat.pow_succ]
              omega
            refine k_ldcL G X (w333 hw) d61_38 (pc' := 41) rfl ?_
            refine k_lloadN G X d61_41 (pc' := 42) rfl rfl ?_
            refine k_lmul G X d61_42 (pc' := 43) rfl rfl ?_
            refine k_lstoreN G X d61_43 (pc' := 44) rfl (l' := #[.val (.long y), .second, .val (.int d), .val (.long ((10 : Int64) * p)), .second, .val (.int i)]) rfl ?_
            refine k_iinc G X d61_44 (pc' := 47) rfl rfl (z := (i + (1 : Int32))) rfl (l' := #[.val (.long y), .second, .val (.int d), .val (.long ((10 : Int64) * p)), .second, .val (.int (i + (1 : Int32)))]) rfl ?_
            refine k_goto G X d61_47 (by decide) (pc' := 20) rfl ?_
            exact ih _ (by rw [hi1]; omega) T ((10 : Int64) * p) (i + (1 : Int32)) (by omega) hp' rfl X
          · refine k_iload G X d61_33 (pc' := 35) rfl rfl ?_
            refine k_iloadN G X d61_35 (pc' := 36) rfl rfl ?_
            refine k_iadd G X d61_36 (pc' := 37) rfl rfl ?_
            refine k_reti G X d61_37 rfl ?_ (by decide) (by decide)
            have e := hp (by omega)
            exact ⟨_, i.toInt.toNat, rfl, by rw [iadd_toInt (by omega) (by omega)]; omega, by omega, by omega, by omega, rfl⟩
    exact LP _ T (-10 : Int64) (1 : Int32) (by decide) (fun _ => by decide) rfl X
  refine k_lloadN G X d61_2 (pc' := 3) rfl rfl ?_
  refine k_lconst G X d61_3 (pc' := 4) rfl (z := (0 : Int64)) (by decide) ?_
  refine k_lcmp G X d61_4 (pc' := 5) rfl rfl ?_
  obtain ⟨cz5, q_cz5⟩ : ∃ z, (if x > (0 : Int64) then (1 : Int32) else if x = (0 : Int64) then 0 else -1) = z := ⟨_, rfl⟩
  have n_cz5 := lcmp_toInt q_cz5
  rw [q_cz5]
  refine k_if_lt G X d61_5 (pc' := 13) rfl (by decide) (pc'' := 8) rfl (fun c5 => ?_) (fun c5 => ?_)
  · exact J13 T x (1 : Int32) (by omega) (by rw [sgn_neg (by omega)]; rfl) X
  · refine k_iconst G X d61_8 (pc' := 9) rfl (z := (0 : Int32)) (by decide) ?_
    refine k_istoreN G X d61_9 (pc' := 10) rfl (l' := #[.val (.long x), .second, .val (.int (0 : Int32)), .unset, .unset, .unset]) rfl ?_
    refine k_lloadN G X d61_10 (pc' := 11) rfl rfl ?_
    refine k_lneg G X d61_11 (pc' := 12) rfl rfl ?_
    refine k_lstoreN G X d61_12 (pc' := 13) rfl (l' := #[.val (.long (-x)), .second, .val (.int (0 : Int32)), .unset, .unset, .unset]) rfl ?_
    exact J13 T (-x) (0 : Int32) (by have := c_lneg x; have := rgL (-x); have := rgL x; omega) (by rw [sgn_pos (by omega)]; rfl) X
theorem pn_62 : plainFor (⟨"java/lang/Long", "getChars", "(JI[B)I"⟩ : MethodName) = true := plainFor_of_name (by first | (simp [plainName, overriddenIn]; done) | decide +kernel)
set_option maxRecDepth 65536 in
set_option maxHeartbeats 40000000 in
theorem gch {Z : State} {a0 : Array Value} (hw : HW a0 Z) (b : Addr) (kb : ClassId) (cap S0 I kd : Nat) (x : Int64) (zI : Int32) (f : Nat → Int32) (dO dT : Addr) (kO kT : ClassId) (gO gT : Nat → Int32) (h0 : Heap) (n0 : Nat) (sf0 : List Addr) (gm_b : n0 ≤ b ∧ b ∈ sf0) (B : Arf Z h0 b kb .byte cap (fun i => .int (f i))) (AO : Arf Z h0 dO kO .byte 100 (fun i => .int (gO i))) (AT : Arf Z h0 dT kT .byte 100 (fun i => .int (gT i))) (S_O : Sta Z h0 "java/lang/Integer" "DigitOnes" "[B" (.ref dO)) (S_T : Sta Z h0 "java/lang/Integer" "DigitTens" "[B" (.ref dT)) (hO : ∀ i, i < 100 → dig (gO i)) (hT : ∀ i, i < 100 → dig (gT i)) (hI : zI.toInt = I) (hIc : I ≤ cap) (hIS : I = S0 + sgn x + kd) (hk1 : 1 ≤ kd) (hA : x.toInt.natAbs < 10 ^ kd) (ne_dO_b : dO ≠ b) (ne_dT_b : dT ≠ b) :
    MetW Z consts_1 sf0 (⟨"java/lang/Long", "getChars", "(JI[B)I"⟩ : MethodName) jdk_35_method_14_code 11 (some .int) [] ({ frames := 0, cells := 0, slots := 0, locals := 0 } : Room) #[(.long x), (.int zI), (.ref b)] h0 n0 (fun v h sf => ∃ r : Int32, v = some (.int r) ∧ Keep h0 h [b] ∧ ∃ F : Nat → Int32, Arf Z h b kb .byte cap (fun i => .int (F i)) ∧ (∀ j, j < S0 → F j = f j) ∧ dig (F (I - 1))) := by
  refine k_body (hEW hw) (f := (fun m => mkF m 0 #[.val (.long x), .second, .val (.int zI), .val (.ref b), .unset, .unset, .unset, .unset, .unset, .unset, .unset] [])) pn_62 (fun m => by first | (simp [entryFrame, mkF, argsToLocals, Value.category, maxLocals]; done) | rfl) ?_
  intro Γ T G X
  have ge_b := gm_b.1
  have KP := Keep.refl h0 [b]
  show Go Γ n0 _ T (mkF Γ.m 0 #[.val (.long x), .second, .val (.int zI), .val (.ref b), .unset, .unset, .unset, .unset, .unset, .unset, .unset] [])
  refine k_iloadN G X d62_0 (pc' := 1) rfl rfl ?_
  refine k_istore G X d62_1 (pc' := 3) rfl (l' := #[.val (.long x), .second, .val (.int zI), .val (.ref b), .unset, .unset, .unset, .val (.int zI), .unset, .unset, .unset]) rfl ?_
  have LP2 : ∀ (k : Nat) (T : State) (h2 : Heap) (y : Int64) (pp : Int32) (ng : Int32) (w : Int32) (s6 : Slot) (s9 : Slot) (s4 : Slot) (s5 : Slot) (Gf : Nat → Int32), ((s6 = .unset ∨ ∃ w, s6 = .val w ∧ w.category = 1)) → ((s9 = .unset ∨ ∃ w, s9 = .val w ∧ w.category = 1)) → (((s4 = .unset ∧ s5 = .unset) ∨ ∃ q, s4 = .val (.long q) ∧ s5 = .second)) → (ng ≠ 0 → sgn x = 1) → (Arf Z h2 b kb .byte cap (fun i => .int (Gf i))) → (Keep h0 h2 [b]) → (Arf Z h2 dO kO .byte 100 (fun i => .int (gO i))) → (Arf Z h2 dT kT .byte 100 (fun i => .int (gT i))) → (Sta Z h2 "java/lang/Integer" "DigitOnes" "[B" (.ref dO)) → (Sta Z h2 "java/lang/Integer" "DigitTens" "[B" (.ref dT)) → (w.toInt ≤ 0) → (S0 + sgn x + 1 ≤ pp.toInt.toNat) → (pp.toInt.toNat ≤ I) → (w.toInt.natAbs < 10 ^ (pp.toInt.toNat - (S0 + sgn x))) → (∀ j, j < S0 → Gf j = f j) → (pp.toInt.toNat < I → dig (Gf (I - 1))) → w.toInt.natAbs = k → W Γ n0 T h2 0 0 (sf0) → Go Γ n0 (fun v h sf => ∃ r : Int32, v = some (.int r) ∧ Keep h0 h [b] ∧ ∃ F : Nat → Int32, Arf Z h b kb .byte cap (fun i => .int (F i)) ∧ (∀ j, j < S0 → F j = f j) ∧ dig (F (I - 1))) T (mkF Γ.m 86 #[.val (.long y), .second, .val (.int zI), .val (.ref b), s4, s5, s6, .val (.int pp), .val (.int ng), s9, .val (.int w)] []) := by
    intro k
    induction k using Nat.strongRecOn with
    | _ k ih =>
      intro T h2 y pp ng w s6 s9 s4 s5 Gf h_s6 h_s9 h_p4 hng B KP AO AT S_O S_T hy hp1 hpI hA hF hD hk X
      refine k_iload G X d62_86 (pc' := 88) rfl rfl ?_
      refine k_bipush G X d62_88 (pc' := 90) rfl (z := (-100 : Int32)) (by decide) ?_
      refine k_icmp_gt G X d62_90 (pc' := 143) rfl (by decide) (pc'' := 93) rfl (fun c90 => ?_) (fun c90 => ?_)
      · have hn9 : w.toInt.natAbs ≤ 99 := ab99 hy c90
        have p1 : (pp + (-1 : Int32)).toInt = ((pp.toInt.toNat - 1 : Nat) : Int) := posm (posn (g1 hp1)) (g1 hp1)
        have hn := neg_abs hy c90
        refine k_aloadN G X d62_143 (pc' := 144) rfl rfl rfl ?_
        refine k_iinc G X d62_144 (pc' := 147) rfl rfl (z := (pp + (-1 : Int32))) rfl (l' := #[.val (.long y), .second, .val (.int zI), .val (.ref b), s4, s5, s6, .val (.int (pp + (-1 : Int32))), .val (.int ng), s9, .val (.int w)]) rfl ?_
        refine k_iload G X d62_147 (pc' := 149) rfl rfl ?_
        refine k_getS G X (host := "") (Or.inl (w338 hw)) Via.refl S_O d62_149 (pc' := 152) rfl (fun T X => ?_)
        refine k_iload G X d62_152 (pc' := 154) rfl rfl ?_
        refine k_ineg G X d62_154 (pc' := 155) rfl rfl ?_
        refine k_baload G X (i := w.toInt.natAbs) (v := (.int (gO w.toInt.natAbs))) AO hn (g99 hn9) rfl d62_155 (pc' := 156) rfl ?_
        refine k_bastore G X (i := (pp.toInt.toNat - 1)) (z := (gO w.toInt.natAbs)) B p1 (glt hp1 hpI hIc (by decide)) (nar_dig (hO _ (g99 hn9))) ge_b (List.mem_append_right [] gm_b.2) d62_156 (pc' := 157) rfl (fun T h156 W156 B X => ?_)
        replace AO := AO.other W156 ne_dO_b
        replace AT := AT.other W156 ne_dT_b
        replace S_O := S_O.wr W156
        replace S_T := S_T.wr W156
        replace KP := KP.wr W156 (Or.inl (List.mem_of_getElem? (i := 0) rfl))
        replace B := upd_arf B
        refine k_iload G X d62_157 (pc' := 159) rfl rfl ?_
        refine k_bipush G X d62_159 (pc' := 161) rfl (z := (-9 : Int32)) (by decide) ?_
        refine k_icmp_ge G X d62_161 (pc' := 178) rfl (by decide) (pc'' := 164) rfl (fun c161 => ?_) (fun c161 => ?_)
        · refine k_iload G X d62_178 (pc' := 180) rfl rfl ?_
          refine k_if_eq G X d62_180 (pc' := 192) rfl (by decide) (pc'' := 183) rfl (fun c180 => ?_) (fun c180 => ?_)
          · refine k_iload G X d62_192 (pc' := 194) rfl rfl ?_
            refine k_reti G X d62_194 rfl ?_ (by decide) (by decide)
            exact ⟨_, rfl, KP, _, B, fun j hj => by rw [upd_ne (gneq hj hp1)]; exact hF j hj, by exact digD (fun q => hD (gd1 hp1 q)) (hO _ (g99 hn9)) (gd2 hp1 hpI)⟩
          · have hs1 := hng c180
            have q2 : S0 + 0 + 2 ≤ pp.toInt.toNat := gsg hp1 hs1
            have p2 : ((pp + (-1 : Int32)) + (-1 : Int32)).toInt = ((pp.toInt.toNat - 2 : Nat) : Int) := posm p1 (gp (n := 1) q2 (by decide))
            refine k_aloadN G X d62_183 (pc' := 184) rfl rfl rfl ?_
            refine k_iinc G X d62_184 (pc' := 187) rfl rfl (z := ((pp + (-1 : Int32)) + (-1 : Int32))) rfl (l' := #[.val (.long y), .second, .val (.int zI), .val (.ref b), s4, s5, s6, .val (.int ((pp + (-1 : Int32)) + (-1 : Int32))), .val (.int ng), s9, .val (.int w)]) rfl ?_
            refine k_iload G X d62_187 (pc' := 189) rfl rfl ?_
            refine k_bipush G X d62_189 (pc' := 191) rfl (z := (45 : Int32)) (by decide) ?_
            refine k_bastore G X (i := (pp.toInt.toNat - 2)) (z := (45 : Int32)) B p2 (glt hp1 hpI hIc (by decide)) (by decide) ge_b (List.mem_append_right [] gm_b.2) d62_191 (pc' := 192) rfl (fun T h191 W191 B X => ?_)
            replace AO := AO.other W191 ne_dO_b
            replace AT := AT.other W191 ne_dT_b
            replace S_O := S_O.wr W191
            replace S_T := S_T.wr W191
            replace KP := KP.wr W191 (Or.inl (List.mem_of_getElem? (i := 0) rfl))
            refine k_iload G X d62_192 (pc' := 194) rfl rfl ?_
            refine k_reti G X d62_194 rfl ?_ (by decide) (by decide)
            replace B := upd_arf B
            exact ⟨_, rfl, KP, _, B, fun j hj => by rw [upd_ne (gneq hj q2), upd_ne (gneq hj hp1)]; exact hF j hj, by rw [upd_ne (gI q2 hpI (by decide))]; exact digD (fun q => hD (gd1 hp1 q)) (hO _ (g99 hn9)) (gd2 hp1 hpI)⟩
        · have h10 := pw2 hA (ab10 c161)
          have q2 : S0 + sgn x + 2 ≤ pp.toInt.toNat := gadd h10 (by decide)
          have p2 : ((pp + (-1 : Int32)) + (-1 : Int32)).toInt = ((pp.toInt.toNat - 2 : Nat) : Int) := posm p1 (gp (n := 1) q2 (by decide))
          refine k_aloadN G X d62_164 (pc' := 165) rfl rfl rfl ?_
          refine k_iinc G X d62_165 (pc' := 168) rfl rfl (z := ((pp + (-1 : Int32)) + (-1 : Int32))) rfl (l' := #[.val (.long y), .second, .val (.int zI), .val (.ref b), s4, s5, s6, .val (.int ((pp + (-1 : Int32)) + (-1 : Int32))), .val (.int ng), s9, .val (.int w)]) rfl ?_
          refine k_iload G X d62_168 (pc' := 170) rfl rfl ?_
          refine k_getS G X (host := "") (Or.inl (w340 hw)) Via.refl S_T d62_170 (pc' := 173) rfl (fun T X => ?_)
          refine k_iload G X d62_173 (pc' := 175) rfl rfl ?_
          refine k_ineg G X d62_175 (pc' := 176) rfl rfl ?_
          refine k_baload G X (i := w.toInt.natAbs) (v := (.int (gT w.toInt.natAbs))) AT hn (g99 hn9) rfl d62_176 (pc' := 177) rfl ?_
          refine k_bastore G X (i := (pp.toInt.toNat - 2)) (z := (gT w.toInt.natAbs)) B p2 (glt hp1 hpI hIc (by decide)) (nar_dig (hT _ (g99 hn9))) ge_b (List.mem_append_right [] gm_b.2) d62_177 (pc' := 178) rfl (fun T h177 W177 B X => ?_)
          replace AO := AO.other W177 ne_dO_b
          replace AT := AT.other W177 ne_dT_b
          replace S_O := S_O.wr W177
          replace S_T := S_T.wr W177
          replace KP := KP.wr W177 (Or.inl (List.mem_of_getElem? (i := 0) rfl))
          replace B := upd_arf B
          refine k_iload G X d62_178 (pc' := 180) rfl rfl ?_
          refine k_if_eq G X d62_180 (pc' := 192) rfl (by decide) (pc'' := 183) rfl (fun c180 => ?_) (fun c180 => ?_)
          · refine k_iload G X d62_192 (pc' := 194) rfl rfl ?_
            refine k_reti G X d62_194 rfl ?_ (by decide) (by decide)
            exact ⟨_, rfl, KP, _, B, fun j hj => by rw [upd_ne (gneq hj q2), upd_ne (gneq hj hp1)]; exact hF j hj, by rw [upd_ne (gI q2 hpI (by decide))]; exact digD (fun q => hD (gd1 hp1 q)) (hO _ (g99 hn9)) (gd2 hp1 hpI)⟩
          · have hs1 := hng c180
            have q3 : S0 + 0 + 3 ≤ pp.toInt.toNat := gsg q2 hs1
            have p3 : (((pp + (-1 : Int32)) + (-1 : Int32)) + (-1 : Int32)).toInt = ((pp.toInt.toNat - 3 : Nat) : Int) := posm p2 (gp (n := 2) q3 (by decide))
            refine k_aloadN G X d62_183 (pc' := 184) rfl rfl rfl ?_
            refine k_iinc G X d62_184 (pc' := 187) rfl rfl (z := (((pp + (-1 : Int32)) + (-1 : Int32)) + (-1 : Int32))) rfl (l' := #[.val (.long y), .second, .val (.int zI), .val (.ref b), s4, s5, s6, .val (.int (((pp + (-1 : Int32)) + (-1 : Int32)) + (-1 : Int32))), .val (.int ng), s9, .val (.int w)]) rfl ?_
            refine k_iload G X d62_187 (pc' := 189) rfl rfl ?_
            refine k_bipush G X d62_189 (pc' := 191) rfl (z := (45 : Int32)) (by decide) ?_
            refine k_bastore G X (i := (pp.toInt.toNat - 3)) (z := (45 : Int32)) B p3 (glt hp1 hpI hIc (by decide)) (by decide) ge_b (List.mem_append_right [] gm_b.2) d62_191 (pc' := 192) rfl (fun T h191 W191 B X => ?_)
            replace AO := AO.other W191 ne_dO_b
            replace AT := AT.other W191 ne_dT_b
            replace S_O := S_O.wr W191
            replace S_T := S_T.wr W191
            replace KP := KP.wr W191 (Or.inl (List.mem_of_getElem? (i := 0) rfl))
            refine k_iload G X d62_192 (pc' := 194) rfl rfl ?_
            refine k_reti G X d62_194 rfl ?_ (by decide) (by decide)
            replace B := upd_arf B
            exact ⟨_, rfl, KP, _, B, fun j hj => by rw [upd_ne (gneq hj q3), upd_ne (gneq hj q2), upd_ne (gneq hj hp1)]; exact hF j hj, by rw [upd_ne (gI q3 hpI (by decide)), upd_ne (gI q2 hpI (by decide))]; exact digD (fun q => hD (gd1 hp1 q)) (hO _ (g99 hn9)) (gd2 hp1 hpI)⟩
      · obtain ⟨ha, hyn⟩ := ab100 c90
        have hw3 := pw3 hA ha
        clear hA
        have q3 : S0 + sgn x + 3 ≤ pp.toInt.toNat := gadd hw3.1 (by decide)
        have q2 : S0 + sgn x + 2 ≤ pp.toInt.toNat := Nat.le_of_succ_le q3
        refine k_iload G X d62_93 (pc' := 95) rfl rfl ?_
        refine k_bipush G X d62_95 (pc' := 97) rfl (z := (100 : Int32)) (by decide) ?_
        refine k_idiv G X d62_97 (pc' := 98) rfl (by decide) rfl ?_
        refine k_istoreS G X d62_98 (pc' := 100) rfl rfl h_s9 (l' := #[.val (.long y), .second, .val (.int zI), .val (.ref b), s4, s5, s6, .val (.int pp), .val (.int ng), .val (.int (w / (100 : Int32))), .val (.int w)]) rfl ?_
        refine k_iload G X d62_100 (pc' := 102) rfl rfl ?_
        refine k_bipush G X d62_102 (pc' := 104) rfl (z := (100 : Int32)) (by decide) ?_
        refine k_imul G X d62_104 (pc' := 105) rfl rfl ?_
        refine k_iload G X d62_105 (pc' := 107) rfl rfl ?_
        refine k_isub G X d62_107 (pc' := 108) rfl rfl ?_
        obtain ⟨r, q_r⟩ : ∃ z, (((w / (100 : Int32)) * (100 : Int32)) - w) = z := ⟨_, rfl⟩
        have hrd := irem_dig hyn q_r
        have hr := hrd.1
        rw [q_r]
        have p1 : (pp + (-1 : Int32)).toInt = ((pp.toInt.toNat - 1 : Nat) : Int) := posm (posn (g1 hp1)) (g1 hp1)
        have p2 : ((pp + (-1 : Int32)) + (-1 : Int32)).toInt = ((pp.toInt.toNat - 2 : Nat) : Int) := posm p1 (gp (n := 1) q2 (by decide))
        refine k_istoreS G X d62_108 (pc' := 110) rfl rfl h_s6 (l' := #[.val (.long y), .second, .val (.int zI), .val (.ref b), s4, s5, .val (.int r), .val (.int pp), .val (.int ng), .val (.int (w / (100 : Int32))), .val (.int w)]) rfl ?_
        refine k_iload G X d62_110 (pc' := 112) rfl rfl ?_
        refine k_istore G X d62_112 (pc' := 114) rfl (l' := #[.val (.long y), .second, .val (.int zI), .val (.ref b), s4, s5, .val (.int r), .val (.int pp), .val (.int ng), .val (.int (w / (100 : Int32))), .val (.int (w / (100 : Int32)))]) rfl ?_
        refine k_aloadN G X d62_114 (pc' := 115) rfl rfl rfl ?_
        refine k_iinc G X d62_115 (pc' := 118) rfl rfl (z := (pp + (-1 : Int32))) rfl (l' := #[.val (.long y), .second, .val (.int zI), .val (.ref b), s4, s5, .val (.int r), .val (.int (pp + (-1 : Int32))), .val (.int ng), .val (.int (w / (100 : Int32))), .val (.int (w / (100 : Int32)))]) rfl ?_
        refine k_iload G X d62_118 (pc' := 120) rfl rfl ?_
        refine k_getS G X (host := "") (Or.inl (w338 hw)) Via.refl S_O d62_120 (pc' := 123) rfl (fun T X => ?_)
        refine k_iload G X d62_123 (pc' := 125) rfl rfl ?_
        refine k_baload G X (i := (w.toInt.natAbs % 100)) (v := (.int (gO (w.toInt.natAbs % 100)))) AO hr (Nat.mod_lt _ (by decide)) rfl d62_125 (pc' := 126) rfl ?_
        refine k_bastore G X (i := (pp.toInt.toNat - 1)) (z := (gO (w.toInt.natAbs % 100))) B p1 (glt hp1 hpI hIc (by decide)) (nar_dig (hO _ (Nat.mod_lt _ (by decide)))) ge_b (List.mem_append_right [] gm_b.2) d62_126 (pc' := 127) rfl (fun T h126 W126 B X => ?_)
        replace AO := AO.other W126 ne_dO_b
        replace AT := AT.other W126 ne_dT_b
        replace S_O := S_O.wr W126
        replace S_T := S_T.wr W126
        replace KP := KP.wr W126 (Or.inl (List.mem_of_getElem? (i := 0) rfl))
        replace B := upd_arf B
        refine k_aloadN G X d62_127 (pc' := 128) rfl rfl rfl ?_
        refine k_iinc G X d62_128 (pc' := 131) rfl rfl (z := ((pp + (-1 : Int32)) + (-1 : Int32))) rfl (l' := #[.val (.long y), .second, .val (.int zI), .val (.ref b), s4, s5, .val (.int r), .val (.int ((pp + (-1 : Int32)) + (-1 : Int32))), .val (.int ng), .val (.int (w / (100 : Int32))), .val (.int (w / (100 : Int32)))]) rfl ?_
        refine k_iload G X d62_131 (pc' := 133) rfl rfl ?_
        refine k_getS G X (host := "") (Or.inl (w340 hw)) Via.refl S_T d62_133 (pc' := 136) rfl (fun T X => ?_)
        refine k_iload G X d62_136 (pc' := 138) rfl rfl ?_
        refine k_baload G X (i := (w.toInt.natAbs % 100)) (v := (.int (gT (w.toInt.natAbs % 100)))) AT hr (Nat.mod_lt _ (by decide)) rfl d62_138 (pc' := 139) rfl ?_
        refine k_bastore G X (i := (pp.toInt.toNat - 2)) (z := (gT (w.toInt.natAbs % 100))) B p2 (glt hp1 hpI hIc (by decide)) (nar_dig (hT _ (Nat.mod_lt _ (by decide)))) ge_b (List.mem_append_right [] gm_b.2) d62_139 (pc' := 140) rfl (fun T h139 W139 B X => ?_)
        replace AO := AO.other W139 ne_dO_b
        replace AT := AT.other W139 ne_dT_b
        replace S_O := S_O.wr W139
        replace S_T := S_T.wr W139
        replace KP := KP.wr W139 (Or.inl (List.mem_of_getElem? (i := 0) rfl))
        replace B := upd_arf B
        refine k_goto G X d62_140 (by decide) (pc' := 86) rfl ?_
        exact ih _ (by rw [← hk, hrd.2.1]; exact gdec ha) T h139 y ((pp + (-1 : Int32)) + (-1 : Int32)) ng (w / (100 : Int32)) (.val (.int r)) (.val (.int (w / (100 : Int32)))) s4 s5 (upd (upd Gf (pp.toInt.toNat - 1) (gO (w.toInt.natAbs % 100))) (pp.toInt.toNat - 2) (gT (w.toInt.natAbs % 100))) (Or.inr ⟨_, rfl, rfl⟩) (Or.inr ⟨_, rfl, rfl⟩) h_p4 hng B KP AO AT S_O S_T hrd.2.2 (by rw [p2, Int.toNat_natCast]; exact gb1 q3) (by rw [p2, Int.toNat_natCast]; exact Nat.le_trans (Nat.sub_le _ _) hpI) (by rw [p2, Int.toNat_natCast, gsc, hrd.2.1]; exact hw3.2) (fun j hj => by rw [upd_ne (gneq hj q2), upd_ne (gneq hj hp1)]; exact hF j hj) (fun _ => by rw [upd_ne (gI q2 hpI (by decide))]; exact digD (fun q => hD (gd1 hp1 q)) (hO _ (Nat.mod_lt _ (by decide))) (gd2 hp1 hpI)) rfl X
  have LP1 : ∀ (k : Nat) (T : State) (h1 : Heap) (y : Int64) (p : Int32) (ng : Int32) (s6 : Slot) (s4 : Slot) (s5 : Slot) (F : Nat → Int32), ((s6 = .unset ∨ ∃ w, s6 = .val w ∧ w.category = 1)) → (((s4 = .unset ∧ s5 = .unset) ∨ ∃ q, s4 = .val (.long q) ∧ s5 = .second)) → (ng ≠ 0 → sgn x = 1) → (Arf Z h1 b kb .byte cap (fun i => .int (F i))) → (Keep h0 h1 [b]) → (Arf Z h1 dO kO .byte 100 (fun i => .int (gO i))) → (Arf Z h1 dT kT .byte 100 (fun i => .int (gT i))) → (Sta Z h1 "java/lang/Integer" "DigitOnes" "[B" (.ref dO)) → (Sta Z h1 "java/lang/Integer" "DigitTens" "[B" (.ref dT)) → (y.toInt ≤ 0) → (S0 + sgn x + 1 ≤ p.toInt.toNat) → (p.toInt.toNat ≤ I) → (y.toInt.natAbs < 10 ^ (p.toInt.toNat - (S0 + sgn x))) → (∀ j, j < S0 → F j = f j) → (p.toInt.toNat < I → dig (F (I - 1))) → y.toInt.natAbs = k → W Γ n0 T h1 0 0 (sf0) → Go Γ n0 (fun v h sf => ∃ r : Int32, v = some (.int r) ∧ Keep h0 h [b] ∧ ∃ F : Nat → Int32, Arf Z h b kb .byte cap (fun i => .int (F i)) ∧ (∀ j, j < S0 → F j = f j) ∧ dig (F (I - 1))) T (mkF Γ.m 24 #[.val (.long y), .second, .val (.int zI), .val (.ref b), s4, s5, s6, .val (.int p), .val (.int ng), .unset, .unset] []) := by
    intro k
    induction k using Nat.strongRecOn with
    | _ k ih =>
      intro T h1 y p ng s6 s4 s5 F h_s6 h_p4 hng B KP AO AT S_O S_T hy hp1 hpI hA hF hD hk X
      refine k_lloadN G X d62_24 (pc' := 25) rfl rfl ?_
      refine k_ldcL G X (w337 hw) d62_25 (pc' := 28) rfl ?_
      refine k_lcmp G X d62_28 (pc' := 29) rfl rfl ?_
      obtain ⟨cz29, q_cz29⟩ : ∃ z, (if y > (-2147483648 : Int64) then (1 : Int32) else if y = (-2147483648 : Int64) then 0 else -1) = z := ⟨_, rfl⟩
      have n_cz29 := lcmp_toInt q_cz29
      rw [q_cz29]
      refine k_if_gt G X d62_29 (pc' := 82) rfl (by decide) (pc'' := 32) rfl (fun c29 => ?_) (fun c29 => ?_)
      · have hyB : -2147483648 < y.toInt := lcmp_gt q_cz29 c29
        clear n_cz29 q_cz29 c29
        refine k_lloadN G X d62_82 (pc' := 83) rfl rfl ?_
        refine k_l2i G X d62_83 (pc' := 84) rfl rfl ?_
        obtain ⟨w0, q_w⟩ : ∃ z, (y.toInt32) = z := ⟨_, rfl⟩
        have hw0 : w0.toInt = y.toInt := l2i_in q_w hy hyB
        rw [q_w]
        refine k_istore G X d62_84 (pc' := 86) rfl (l' := #[.val (.long y), .second, .val (.int zI), .val (.ref b), s4, s5, s6, .val (.int p), .val (.int ng), .unset, .val (.int w0)]) rfl ?_
        exact LP2 _ T h1 y p ng w0 s6 (.unset) s4 s5 F h_s6 (Or.inl rfl) h_p4 hng B KP AO AT S_O S_T (by rw [hw0]; exact hy) hp1 hpI (by rw [hw0]; exact hA) hF hD rfl X
      · have hyM : y.toInt ≤ -2147483648 := lcmp_le q_cz29 c29
        clear n_cz29 q_cz29 c29
        obtain ⟨ha, hyn⟩ := abM hyM
        have hw3 := pw3 hA ha
        clear hA
        have q3 : S0 + sgn x + 3 ≤ p.toInt.toNat := gadd hw3.1 (by decide)
        have q2 : S0 + sgn x + 2 ≤ p.toInt.toNat := Nat.le_of_succ_le q3
        refine k_lloadN G X d62_32 (pc' := 33) rfl rfl ?_
        refine k_ldcL G X (w352 hw) d62_33 (pc' := 36) rfl ?_
        refine k_ldiv G X d62_36 (pc' := 37) rfl (by decide) rfl ?_
        refine k_lstore G X d62_37 (pc' := 39) rfl (l' := #[.val (.long y), .second, .val (.int zI), .val (.ref b), .val (.long (y / (100 : Int64))), .second, s6, .val (.int p), .val (.int ng), .unset, .unset]) (by rcases h_p4 with ⟨rfl, rfl⟩ | ⟨_, rfl, rfl⟩ <;> rfl) ?_
        refine k_lload G X d62_39 (pc' := 41) rfl rfl ?_
        refine k_ldcL G X (w352 hw) d62_41 (pc' := 44) rfl ?_
        refine k_lmul G X d62_44 (pc' := 45) rfl rfl ?_
        refine k_lloadN G X d62_45 (pc' := 46) rfl rfl ?_
        refine k_lsub G X d62_46 (pc' := 47) rfl rfl ?_
        refine k_l2i G X d62_47 (pc' := 48) rfl rfl ?_
        obtain ⟨r, q_r⟩ : ∃ z, ((((y / (100 : Int64)) * (100 : Int64)) - y).toInt32) = z := ⟨_, rfl⟩
        have hrd := lrem_dig hyn q_r
        have hr := hrd.1
        rw [q_r]
        have p1 : (p + (-1 : Int32)).toInt = ((p.toInt.toNat - 1 : Nat) : Int) := posm (posn (g1 hp1)) (g1 hp1)
        have p2 : ((p + (-1 : Int32)) + (-1 : Int32)).toInt = ((p.toInt.toNat - 2 : Nat) : Int) := posm p1 (gp (n := 1) q2 (by decide))
        refine k_istoreS G X d62_48 (pc' := 50) rfl rfl h_s6 (l' := #[.val (.long y), .second, .val (.int zI), .val (.ref b), .val (.long (y / (100 : Int64))), .second, .val (.int r), .val (.int p), .val (.int ng), .unset, .unset]) rfl ?_
        refine k_lload G X d62_50 (pc' := 52) rfl rfl ?_
        refine k_lstoreN G X d62_52 (pc' := 53) rfl (l' := #[.val (.long (y / (100 : Int64))), .second, .val (.int zI), .val (.ref b), .val (.long (y / (100 : Int64))), .second, .val (.int r), .val (.int p), .val (.int ng), .unset, .unset]) rfl ?_
        refine k_aloadN G X d62_53 (pc' := 54) rfl rfl rfl ?_
        refine k_iinc G X d62_54 (pc' := 57) rfl rfl (z := (p + (-1 : Int32))) rfl (l' := #[.val (.long (y / (100 : Int64))), .second, .val (.int zI), .val (.ref b), .val (.long (y / (100 : Int64))), .second, .val (.int r), .val (.int (p + (-1 : Int32))), .val (.int ng), .unset, .unset]) rfl ?_
        refine k_iload G X d62_57 (pc' := 59) rfl rfl ?_
        refine k_getS G X (host := "") (Or.inl (w338 hw)) Via.refl S_O d62_59 (pc' := 62) rfl (fun T X => ?_)
        refine k_iload G X d62_62 (pc' := 64) rfl rfl ?_
        refine k_baload G X (i := (y.toInt.natAbs % 100)) (v := (.int (gO (y.toInt.natAbs % 100)))) AO hr (Nat.mod_lt _ (by decide)) rfl d62_64 (pc' := 65) rfl ?_
        refine k_bastore G X (i := (p.toInt.toNat - 1)) (z := (gO (y.toInt.natAbs % 100))) B p1 (glt hp1 hpI hIc (by decide)) (nar_dig (hO _ (Nat.mod_lt _ (by decide)))) ge_b (List.mem_append_right [] gm_b.2) d62_65 (pc' := 66) rfl (fun T h65 W65 B X => ?_)
        replace AO := AO.other W65 ne_dO_b
        replace AT := AT.other W65 ne_dT_b
        replace S_O := S_O.wr W65
        replace S_T := S_T.wr W65
        replace KP := KP.wr W65 (Or.inl (List.mem_of_getElem? (i := 0) rfl))
        replace B := upd_arf B
        refine k_aloadN G X d62_66 (pc' := 67) rfl rfl rfl ?_
        refine k_iinc G X d62_67 (pc' := 70) rfl rfl (z := ((p + (-1 : Int32)) + (-1 : Int32))) rfl (l' := #[.val (.long (y / (100 : Int64))), .second, .val (.int zI), .val (.ref b), .val (.long (y / (100 : Int64))), .second, .val (.int r), .val (.int ((p + (-1 : Int32)) + (-1 : Int32))), .val (.int ng), .unset, .unset]) rfl ?_
        refine k_iload G X d62_70 (pc' := 72) rfl rfl ?_
        refine k_getS G X (host := "") (Or.inl (w340 hw)) Via.refl S_T d62_72 (pc' := 75) rfl (fun T X => ?_)
        refine k_iload G X d62_75 (pc' := 77) rfl rfl ?_
        refine k_baload G X (i := (y.toInt.natAbs % 100)) (v := (.int (gT (y.toInt.natAbs % 100)))) AT hr (Nat.mod_lt _ (by decide)) rfl d62_77 (pc' := 78) rfl ?_
        refine k_bastore G X (i := (p.toInt.toNat - 2)) (z := (gT (y.toInt.natAbs % 100))) B p2 (glt hp1 hpI hIc (by decide)) (nar_dig (hT _ (Nat.mod_lt _ (by decide)))) ge_b (List.mem_append_right [] gm_b.2) d62_78 (pc' := 79) rfl (fun T h78 W78 B X => ?_)
        replace AO := AO.other W78 ne_dO_b
        replace AT := AT.other W78 ne_dT_b
        replace S_O := S_O.wr W78
        replace S_T := S_T.wr W78
        replace KP := KP.wr W78 (Or.inl (List.mem_of_getElem? (i := 0) rfl))
        replace B := upd_arf B
        refine k_goto G X d62_79 (by decide) (pc' := 24) rfl ?_
        exact ih _ (by rw [← hk, hrd.2.1]; exact gdec ha) T h78 (y / (100 : Int64)) ((p + (-1 : Int32)) + (-1 : Int32)) ng (.val (.int r)) (.val (.long (y / (100 : Int64)))) (.second) (upd (upd F (p.toInt.toNat - 1) (gO (y.toInt.natAbs % 100))) (p.toInt.toNat - 2) (gT (y.toInt.natAbs % 100))) (Or.inr ⟨_, rfl, rfl⟩) (Or.inr ⟨_, rfl, rfl⟩) hng B KP AO AT S_O S_T hrd.2.2 (by rw [p2, Int.toNat_natCast]; exact gb1 q3) (by rw [p2, Int.toNat_natCast]; exact Nat.le_trans (Nat.sub_le _ _) hpI) (by rw [p2, Int.toNat_natCast, gsc, hrd.2.1]; exact hw3.2) (fun j hj => by rw [upd_ne (gneq hj q2), upd_ne (gneq hj hp1)]; exact hF j hj) (fun _ => by rw [upd_ne (gI q2 hpI (by decide))]; exact digD (fun q => hD (gd1 hp1 q)) (hO _ (Nat.mod_lt _ (by decide))) (gd2 hp1 hpI)) rfl X
  refine k_lloadN G X d62_3 (pc' := 4) rfl rfl ?_
  refine k_lconst G X d62_4 (pc' := 5) rfl (z := (0 : Int64)) (by decide) ?_
  refine k_lcmp G X d62_5 (pc' := 6) rfl rfl ?_
  obtain ⟨cz6, q_cz6⟩ : ∃ z, (if x > (0 : Int64) then (1 : Int32) else if x = (0 : Int64) then 0 else -1) = z := ⟨_, rfl⟩
  have n_cz6 := lcmp_toInt q_cz6
  rw [q_cz6]
  refine k_if_ge G X d62_6 (pc' := 13) rfl (by decide) (pc'' := 9) rfl (fun c6 => ?_) (fun c6 => ?_)
  · have ge0 : 0 ≤ x.toInt := lcmp_ge q_cz6 c6
    clear n_cz6
    refine k_iconst G X d62_13 (pc' := 14) rfl (z := (0 : Int32)) (by decide) ?_
    refine k_istore G X d62_14 (pc' := 16) rfl (l' := #[.val (.long x), .second, .val (.int zI), .val (.ref b), .unset, .unset, .unset, .val (.int zI), .val (.int (0 : Int32)), .unset, .unset]) rfl ?_
    refine k_iload G X d62_16 (pc' := 18) rfl rfl ?_
    refine k_if_ne G X d62_18 (pc' := 24) rfl (by decide) (pc'' := 21) rfl (fun c18 => (absurd c18 (by decide))) (fun c18 => ?_)
    refine k_lloadN G X d62_21 (pc' := 22) rfl rfl ?_
    refine k_lneg G X d62_22 (pc' := 23) rfl rfl ?_
    refine k_lstoreN G X d62_23 (pc' := 24) rfl (l' := #[.val (.long (-x)), .second, .val (.int zI), .val (.ref b), .unset, .unset, .unset, .val (.int zI), .val (.int (0 : Int32)), .unset, .unset]) rfl ?_
    exact LP1 _ T h0 (-x) zI (0 : Int32) (.unset) (.unset) (.unset) f (Or.inl rfl) (Or.inl ⟨rfl, rfl⟩) (fun q => absurd rfl q) B KP AO AT S_O S_T (neg_np ge0) (gi1 hI hIS hk1) (gi2 hI) (by rw [gi3 hI hIS, neg_pos ge0, Int.natAbs_neg, Int.natAbs_natCast]; exact hA) (fun j _ => rfl) (fun q => absurd q (gi4 hI)) rfl X
  · have lt0 : x.toInt < 0 := lcmp_lt q_cz6 c6
    clear n_cz6
    refine k_iconst G X d62_9 (pc' := 10) rfl (z := (1 : Int32)) (by decide) ?_
    refine k_goto G X d62_10 (by decide) (pc' := 14) rfl ?_
    refine k_istore G X d62_14 (pc' := 16) rfl (l' := #[.val (.long x), .second, .val (.int zI), .val (.ref b), .unset, .unset, .unset, .val (.int zI), .val (.int (1 : Int32)), .unset, .unset]) rfl ?_
    refine k_iload G X d62_16 (pc' := 18) rfl rfl ?_
    refine k_if_ne G X d62_18 (pc' := 24) rfl (by decide) (pc'' := 21) rfl (fun c18 => ?_) (fun c18 => (absurd c18 (by decide)))
    exact LP1 _ T h0 x zI (1 : Int32) (.unset) (.unset) (.unset) f (Or.inl rfl) (Or.inl ⟨rfl, rfl⟩) (fun _ => sgn_neg (lt0)) B KP AO AT S_O S_T (Int.le_of_lt lt0) (gi1 hI hIS hk1) (gi2 hI) (by rw [gi3 hI hIS]; exact hA) (fun j _ => rfl) (fun q => absurd q (gi4 hI)) rfl X
theorem pn_60 : plainFor (⟨"java/lang/AbstractStringBuilder", "append", "(J)Ljava/lang/AbstractStringBuilder;"⟩ : MethodName) = true := plainFor_of_name (by first | (simp [plainName, overriddenIn]; done) | decide +kernel)
set_option maxRecDepth 65536 in
set_option maxHeartbeats 40000000 in
theorem sb_aj1 {Z : State} {a0 : Array Value} (hw : HW a0 Z) (o b : Addr) (k : ClassId) (cap : Nat) (L : List Int32) (cs : Int32) (x : Int64) (dO dT : Addr) (kO kT : ClassId) (gO gT : Nat → Int32) (h0 : Heap) (n0 : Nat) (sf0 : List Addr) (gm_o : n0 ≤ o ∧ o ∈ sf0) (gm_b : n0 ≤ b ∧ b ∈ sf0) (O : Old Z n0 h0) (BL : Bld Z h0 o b k cap L) (S_CS : Sta Z h0 "java/lang/String" "COMPACT_STRINGS" "Z" (.int cs)) (hcs : cs ≠ 0) (AO : Arf Z h0 dO kO .byte 100 (fun i => .int (gO i))) (AT : Arf Z h0 dT kT .byte 100 (fun i => .int (gT i))) (S_O : Sta Z h0 "java/lang/Integer" "DigitOnes" "[B" (.ref dO)) (S_T : Sta Z h0 "java/lang/Integer" "DigitTens" "[B" (.ref dT)) (hO : ∀ i, i < 100 → dig (gO i)) (hT : ∀ i, i < 100 → dig (gT i)) (ne_dO_b : dO ≠ b) (ne_dT_b : dT ≠ b) (ne_dO_o : dO ≠ o) (ne_dT_o : dT ≠ o) (hL : L.length + 20 ≤ 32) :
    MetW Z consts_1 sf0 (⟨"java/lang/AbstractStringBuilder", "append", "(J)Ljava/lang/AbstractStringBuilder;"⟩ : MethodName) jdk_68_method_33_code 5 (some (.object "java/lang/AbstractStringBuilder")) [] ({ frames := 4, cells := 1, slots := 64, locals := 62 } : Room) #[(.ref o), (.long x)] h0 n0 (fun v h sf => v = some (.ref o) ∧ Keep h0 h [o, b] ∧ ∃ u ku cu D, (1 ≤ D.length ∧ D.length ≤ 20 ∧ dig (D.getD (D.length - 1) 0)) ∧ Bld Z h o u ku cu (L ++ D) ∧ (u = b ∨ h0.size ≤ u) ∧ n0 ≤ u ∧ u ∈ sf) := by
  refine k_body (hEW hw) (f := (fun m => mkF m 0 #[.val (.ref o), .val (.long x), .second, .unset, .unset] [])) pn_60 (fun m => by first | (simp [entryFrame, mkF, argsToLocals, Value.category, maxLocals]; done) | rfl) ?_
  intro Γ T G X
  have ge_o := gm_o.1
  have ge_b := gm_b.1
  obtain ⟨E, YB, FV, FC, ⟨zN, hN, FN⟩, ⟨f, B, hf⟩, hcap⟩ := id BL
  have ne_b_o : b ≠ o := BL.ne
  obtain ⟨zC, hC⟩ : ∃ z : Int32, z.toInt = cap := ⟨cap.toInt32, len_toInt B.size_lt⟩
  have e1 : (1 : Int32).toInt = 1 := rfl
  have KP := Keep.refl h0 [o, b]
  show Go Γ n0 _ T (mkF Γ.m 0 #[.val (.ref o), .val (.long x), .second, .unset, .unset] [])
  refine k_aloadN G X d60_0 (pc' := 1) rfl rfl rfl ?_
  refine k_getF G X (host := "") (Or.inl (w57 hw)) Via.refl FN d60_1 (pc' := 4) rfl (fun T X => ?_)
  refine k_istoreN G X d60_4 (pc' := 5) rfl (l' := #[.val (.ref o), .val (.long x), .second, .val (.int zN), .unset]) rfl ?_
  refine k_iloadN G X d60_5 (pc' := 6) rfl rfl ?_
  refine k_lloadN G X d60_6 (pc' := 7) rfl rfl ?_
  refine k_callS G X (argsL := [(.long x)]) (rest := [(.int zN)]) rfl (w328 hw) (w329 hw) (w330 hw) (w331 hw) (by decide) (lsz hw x h0 n0 _) d60_7 pd27 rfl (pc' := 10) rfl rfl (wd := 1) rfl (by decide) (by decide) (by decide) (by decide) (fun T h7 v sf7 X q => ?_)
  replace X := W.drop X
  obtain ⟨r, kd, rfl, hr, hk1, hk2, hA, e7⟩ := q
  replace X := X.eq e7
  have hsg := sgn_le x
  have hNz : (zN + r).toInt = (L.length + (sgn x + kd) : Nat) := by rw [iadd_toInt (by omega) (by omega)]; omega
  show Go Γ n0 _ T (mkF Γ.m 10 #[.val (.ref o), .val (.long x), .second, .val (.int zN), .unset] [(.int r), (.int zN)])
  refine k_iadd G X d60_10 (pc' := 11) rfl rfl ?_
  refine k_istore G X d60_11 (pc' := 13) rfl (l' := #[.val (.ref o), .val (.long x), .second, .val (.int zN), .val (.int (zN + r))]) rfl ?_
  refine k_aloadN G X d60_13 (pc' := 14) rfl rfl rfl ?_
  refine k_iload G X d60_14 (pc' := 16) rfl rfl ?_
  refine k_callP G X (argsL := [(.int (zN + r))]) (rest := []) rfl E (w68 hw) (w69 hw) (selQ (w71 hw) (w70 hw) (w69 hw) (by decide)) (w70 hw) (w25 hw) (w72 hw) (by decide) (sb_ens hw o b k cap L cs (zN + r) h0 n0 _ ⟨ge_o, (List.mem_append_right [] gm_o.2)⟩ ⟨ge_b, (List.mem_append_right [] gm_b.2)⟩ O BL S_CS hcs (by rw [hNz]; omega) (by rw [hNz]; omega) (by rw [hNz]; omega)) d60_16 pd15 rfl (pc' := 19) rfl rfl (wd := 0) rfl (by decide) (by decide) (by decide) (by decide) (fun T h16 v sf16 X q => ?_)
  obtain ⟨rfl, K16, u, ku, cu, BLu, hzu, hu, ge_u, mu⟩ := q
  rw [hNz] at hzu
  replace X := W.only X mu
  have in_u := in_mem (o := o) hu
  have ne_u_o : u ≠ o := BLu.ne
  have ne_dO_u : dO ≠ u := ne_new hu ne_dO_b AO.lt
  have ne_dT_u : dT ≠ u := ne_new hu ne_dT_b AT.lt
  replace S_CS := Sta_keepL S_CS K16 (allS (Pln_exa E) (all0))
  replace S_O := Sta_keepL S_O K16 (allS (Pln_exa E) (all0))
  replace S_T := Sta_keepL S_T K16 (allS (Pln_exa E) (all0))
  replace E := E.keep K16
  replace YB := YB.keep K16
  replace B := B.keep K16 (nin1 ne_b_o)
  replace O := O.keep K16 (allS ge_o (all0))
  replace KP := KP.trans K16 (allS (Or.inl (List.mem_of_getElem? (i := 0) rfl)) (all0))
  replace AO := AO.keep K16 (nin1 ne_dO_o)
  replace AT := AT.keep K16 (nin1 ne_dT_o)
  obtain ⟨E, YB, FV, FC, ⟨zN', hN', FN⟩, ⟨f', B, hf'⟩, hcu⟩ := BLu
  obtain rfl : zN = zN' := of_toInt (by rw [hN, hN'])
  show Go Γ n0 _ T (mkF Γ.m 19 #[.val (.ref o), .val (.long x), .second, .val (.int zN), .val (.int (zN + r))] [])
  refine k_aloadN G X d60_19 (pc' := 20) rfl rfl rfl ?_
  refine k_callV G X (argsL := []) (rest := []) rfl E (w73 hw) (w74 hw) (nf_sel (w76 hw)) (w76 hw) (w75 hw) (w25 hw) (w77 hw) (by decide) (sb_lat hw o cs h16 n0 _ FC S_CS hcs) d60_20 pd3 rfl (pc' := 23) rfl rfl (wd := 0) rfl (by decide) (by decide) (by decide) (by decide) (fun T h20 v sf20 X q => ?_)
  replace X := W.drop X
  obtain ⟨rfl, e20⟩ := q
  replace X := X.eq e20
  show Go Γ n0 _ T (mkF Γ.m 23 #[.val (.ref o), .val (.long x), .second, .val (.int zN), .val (.int (zN + r))] [(.int (1 : Int32))])
  refine k_if_eq G X d60_23 (pc' := 40) rfl (by decide) (pc'' := 26) rfl (fun c23 => (absurd c23 (by decide))) (fun c23 => ?_)
  refine k_lloadN G X d60_26 (pc' := 27) rfl rfl ?_
  refine k_iload G X d60_27 (pc' := 29) rfl rfl ?_
  refine k_aloadN G X d60_29 (pc' := 30) rfl rfl rfl ?_
  refine k_getF G X (host := "") (Or.inl (w31 hw)) Via.refl FV d60_30 (pc' := 33) rfl (fun T X => ?_)
  refine k_callS G X (argsL := [(.long x), (.int (zN + r)), (.ref u)]) (rest := []) rfl (w334 hw) (w335 hw) (w330 hw) (w336 hw) (by decide) (gch hw u ku cu L.length (L.length + (sgn x + kd)) kd x (zN + r) f' dO dT kO kT gO gT h16 n0 _ ⟨ge_u, (List.mem_of_getElem? (i := 0) rfl)⟩ B AO AT S_O S_T hO hT hNz (by omega) (by omega) hk1 hA ne_dO_u ne_dT_u) d60_33 pd28 rfl (pc' := 36) rfl rfl (wd := 0) rfl (by decide) (by decide) (by decide) (by decide) (fun T h33 v sf33 X q => ?_)
  replace X := W.drop X
  obtain ⟨rp, rfl, K33, F, B', hF, hdg⟩ := q
  replace S_CS := Sta_keepL S_CS K33 (allS (Pln_exa YB) (all0))
  replace S_O := Sta_keepL S_O K33 (allS (Pln_exa YB) (all0))
  replace S_T := Sta_keepL S_T K33 (allS (Pln_exa YB) (all0))
  replace O := O.keep K33 (allS ge_u (all0))
  replace KP := KP.trans K33 (allS in_u (all0))
  replace AO := AO.keep K33 (nin1 ne_dO_u)
  replace AT := AT.keep K33 (nin1 ne_dT_u)
  replace E := E.keep K33
  replace YB := YB.keep K33
  replace FV := FV.keep K33 (nin1 (Ne.symm ne_u_o))
  replace FC := FC.keep K33 (nin1 (Ne.symm ne_u_o))
  replace FN := FN.keep K33 (nin1 (Ne.symm ne_u_o))
  have B := B'
  show Go Γ n0 _ T (mkF Γ.m 36 #[.val (.ref o), .val (.long x), .second, .val (.int zN), .val (.int (zN + r))] [(.int rp)])
  refine k_pop G X d60_36 (pc' := 37) rfl rfl ?_
  refine k_goto G X d60_37 (by decide) (pc' := 52) rfl ?_
  refine k_aloadN G X d60_52 (pc' := 53) rfl rfl rfl ?_
  refine k_iload G X d60_53 (pc' := 55) rfl rfl ?_
  refine k_putF G X (host := "") (Or.inl (w57 hw)) Via.refl FN E (Or.inl (w58 hw)) (w11 hw) (ty := .int) (by decide) rfl rfl ge_o (List.mem_append_right [u] gm_o.2) d60_55 (pc' := 58) rfl (fun T h55 W55 X => ?_)
  replace O := O.wr W55 ge_o
  replace KP := KP.wr W55 (Or.inl (List.mem_of_getElem? (i := 0) rfl))
  replace S_CS := S_CS.wr W55
  replace AO := AO.other W55 ne_dO_o
  replace AT := AT.other W55 ne_dT_o
  replace S_O := S_O.wr W55
  replace S_T := S_T.wr W55
  replace E := E.wr W55
  replace YB := YB.wr W55
  replace FV := FV.other W55 (Or.inr (slot_ne (Or.inl (w32 hw)) (Or.inl (w58 hw)) (by decide) (t := (.array .byte)) (t' := .int) (by decide) (by decide)))
  replace FC := FC.other W55 (Or.inr (slot_ne (Or.inl (w34 hw)) (Or.inl (w58 hw)) (by decide) (t := .byte) (t' := .int) (by decide) (by decide)))
  replace FN := FN.same W55
  replace B := B.other W55 ne_u_o
  refine k_aloadN G X d60_58 (pc' := 59) rfl rfl rfl ?_
  refine k_reta G X d60_59 (t := (.object "java/lang/AbstractStringBuilder")) rfl rfl rfl ?_ (by decide) (by decide)
  exact ⟨rfl, KP, u, ku, cu, (List.range (sgn x + kd)).map (fun i => F (L.length + i)), ⟨by simp; omega, by simp; omega, by rw [List.length_map, List.length_range, rng_getD _ _ _ (by omega), show L.length + (sgn x + kd - 1) = L.length + (sgn x + kd) - 1 by omega]; exact hdg⟩, Bld.mkG E YB FV FC (by first | exact hNz | simpa using hNz) FN B (fun i hi => by rw [hF i hi, hf' i hi]) (fun i hi => by rw [rng_getD _ _ _ (by simpa using hi)]) (by simp; omega), hu, ge_u, (List.mem_of_getElem? (i := 0) rfl)⟩
theorem pn_59 : plainFor (⟨"java/lang/StringBuilder", "append", "(J)Ljava/lang/StringBuilder;"⟩ : MethodName) = true := plainFor_of_name (by first | (simp [plainName, overriddenIn]; done) | decide +kernel)
set_option maxRecDepth 65536 in
set_option maxHeartbeats 40000000 in
theorem sb_aj {Z : State} {a0 : Array Value} (hw : HW a0 Z) (o b : Addr) (k : ClassId) (cap : Nat) (L : List Int32) (cs : Int32) (x : Int64) (dO dT : Addr) (kO kT : ClassId) (gO gT : Nat → Int32) (h0 : Heap) (n0 : Nat) (sf0 : List Addr) (gm_o : n0 ≤ o ∧ o ∈ sf0) (gm_b : n0 ≤ b ∧ b ∈ sf0) (O : Old Z n0 h0) (BL : Bld Z h0 o b k cap L) (S_CS : Sta Z h0 "java/lang/String" "COMPACT_STRINGS" "Z" (.int cs)) (hcs : cs ≠ 0) (AO : Arf Z h0 dO kO .byte 100 (fun i => .int (gO i))) (AT : Arf Z h0 dT kT .byte 100 (fun i => .int (gT i))) (S_O : Sta Z h0 "java/lang/Integer" "DigitOnes" "[B" (.ref dO)) (S_T : Sta Z h0 "java/lang/Integer" "DigitTens" "[B" (.ref dT)) (hO : ∀ i, i < 100 → dig (gO i)) (hT : ∀ i, i < 100 → dig (gT i)) (ne_dO_b : dO ≠ b) (ne_dT_b : dT ≠ b) (ne_dO_o : dO ≠ o) (ne_dT_o : dT ≠ o) (hL : L.length + 20 ≤ 32) :
    MetW Z consts_1 sf0 (⟨"java/lang/StringBuilder", "append", "(J)Ljava/lang/StringBuilder;"⟩ : MethodName) jdk_67_method_16_code 3 (some (.object "java/lang/StringBuilder")) [] ({ frames := 5, cells := 1, slots := 64, locals := 78 } : Room) #[(.ref o), (.long x)] h0 n0 (fun v h sf => v = some (.ref o) ∧ Keep h0 h [o, b] ∧ ∃ u ku cu D, (1 ≤ D.length ∧ D.length ≤ 20 ∧ dig (D.getD (D.length - 1) 0)) ∧ Bld Z h o u ku cu (L ++ D) ∧ (u = b ∨ h0.size ≤ u) ∧ n0 ≤ u ∧ u ∈ sf) := by
  refine k_body (hEW hw) (f := (fun m => mkF m 0 #[.val (.ref o), .val (.long x), .second] [])) pn_59 (fun m => by first | (simp [entryFrame, mkF, argsToLocals, Value.category, maxLocals]; done) | rfl) ?_
  intro Γ T G X
  have ge_o := gm_o.1
  have ge_b := gm_b.1
  obtain ⟨E, YB, FV, FC, ⟨zN, hN, FN⟩, ⟨f, B, hf⟩, hcap⟩ := id BL
  have ne_b_o : b ≠ o := BL.ne
  obtain ⟨zC, hC⟩ : ∃ z : Int32, z.toInt = cap := ⟨cap.toInt32, len_toInt B.size_lt⟩
  have e1 : (1 : Int32).toInt = 1 := rfl
  show Go Γ n0 _ T (mkF Γ.m 0 #[.val (.ref o), .val (.long x), .second] [])
  refine k_aloadN G X d59_0 (pc' := 1) rfl rfl rfl ?_
  refine k_lloadN G X d59_1 (pc' := 2) rfl rfl ?_
  refine k_callU G X (argsL := [(.long x)]) (rest := []) rfl (Ins.self E) (w324 hw) (smD (w325 hw) ((nf_sib (y := (⟨"java/lang/AbstractStringBuilder", "append", "(J)Ljava/lang/AbstractStringBuilder;"⟩ : MethodName)) (w71 hw) (w69 hw) rfl) Z (State.Warmed39.refl Z)) (by decide)) (w325 hw) (w54 hw) (by decide) (w25 hw) (w327 hw) (sb_aj1 hw o b k cap L cs x dO dT kO kT gO gT h0 n0 _ ⟨ge_o, (List.mem_append_right [] gm_o.2)⟩ ⟨ge_b, (List.mem_append_right [] gm_b.2)⟩ O BL S_CS hcs AO AT S_O S_T hO hT ne_dO_b ne_dT_b ne_dO_o ne_dT_o hL) d59_2 pd29 rfl (pc' := 5) rfl rfl (wd := 0) rfl (by decide) (by decide) (by decide) (by decide) (fun T h2 v sf2 X q => ?_)
  obtain ⟨rfl, KQ, u, ku, cu, D, hDD, BLu, hu, ge_u, mu⟩ := q
  replace X := W.only X mu
  show Go Γ n0 _ T (mkF Γ.m 5 #[.val (.ref o), .val (.long x), .second] [(.ref o)])
  refine k_pop G X d59_5 (pc' := 6) rfl rfl ?_
  refine k_aloadN G X d59_6 (pc' := 7) rfl rfl rfl ?_
  refine k_reta G X d59_7 (t := (.object "java/lang/StringBuilder")) rfl rfl rfl ?_ (by decide) (by decide)
  exact ⟨rfl, KQ, u, ku, cu, D, hDD, BLu, hu, ge_u, (List.mem_of_getElem? (i := 0) rfl)⟩
theorem pn_7 : plainFor (⟨"com/example/half_message_commit/halfmessagecommit/protocol/JsonWriter", "separate", "()V"⟩ : MethodName) = true := plainFor_of_name (by first | (simp [plainName, overriddenIn]; done) | decide +kernel)
set_option maxRecDepth 65536 in
set_option maxHeartbeats 40000000 in
theorem sepE {Z : State} {a0 : Array Value} (hw : HW a0 Z) (jw o b : Addr) (k : ClassId) (cap : Nat) (L : List Int32) (cs : Int32) (h0 : Heap) (n0 : Nat) (sf0 : List Addr) (EJ : Exa Z h0 jw "com/example/half_message_commit/halfmessagecommit/protocol/JsonWriter") (JT : Fld Z h0 jw "com/example/half_message_commit/halfmessagecommit/protocol/JsonWriter" "text" "Ljava/lang/StringBuilder;" (.ref o)) (gm_o : n0 ≤ o ∧ o ∈ sf0) (gm_b : n0 ≤ b ∧ b ∈ sf0) (O : Old Z n0 h0) (BL : Bld Z h0 o b k cap L) (S_CS : Sta Z h0 "java/lang/String" "COMPACT_STRINGS" "Z" (.int cs)) (hcs : cs ≠ 0) (hLe : L = []) :
    MetW Z consts_1 sf0 (⟨"com/example/half_message_commit/halfmessagecommit/protocol/JsonWriter", "separate", "()V"⟩ : MethodName) prog_24_method_12_code 2 none [] ({ frames := 2, cells := 0, slots := 0, locals := 24 } : Room) #[(.ref jw)] h0 n0 (fun v h sf => v = none ∧ h = h0) := by
  refine k_body (hEW hw) (f := (fun m => mkF m 0 #[.val (.ref jw), .unset] [])) pn_7 (fun m => by first | (simp [entryFrame, mkF, argsToLocals, Value.category, maxLocals]; done) | rfl) ?_
  intro Γ T G X
  have ge_o := gm_o.1
  have ge_b := gm_b.1
  have E := BL.1
  have YA := BL.2.1
  have ne_b_o : b ≠ o := BL.ne
  have ne_jw_o : jw ≠ o := ne_exa EJ E (by decide)
  have ne_jw_b : jw ≠ b := ne_exa EJ YA (by decide)
  have KP := Keep.refl h0 [o, b]
  have in_b : b = b ∨ h0.size ≤ b := Or.inl rfl
  obtain ⟨zN, hN, FN⟩ := BL.2.2.2.2.1
  have e1 : (1 : Int32).toInt = 1 := rfl
  show Go Γ n0 _ T (mkF Γ.m 0 #[.val (.ref jw), .unset] [])
  refine k_aloadN G X d7_0 (pc' := 1) rfl rfl rfl ?_
  refine k_getF G X (host := "") (Or.inl (w35 hw)) Via.refl JT d7_1 (pc' := 4) rfl (fun T X => ?_)
  refine k_callV G X (argsL := []) (rest := []) rfl E (w47 hw) (w48 hw) (nf_sel (w50 hw)) (w50 hw) (w49 hw) (w12 hw) (w51 hw) (by decide) (sb_len hw o zN h0 n0 _ E FN) d7_4 pd11 rfl (pc' := 7) rfl rfl (wd := 0) rfl (by decide) (by decide) (by decide) (by decide) (fun T h4 v sf4 X q => ?_)
  replace X := W.drop X
  obtain ⟨rfl, e4⟩ := q
  replace X := X.eq e4
  show Go Γ n0 _ T (mkF Γ.m 7 #[.val (.ref jw), .unset] [(.int zN)])
  refine k_iconst G X d7_7 (pc' := 8) rfl (z := (1 : Int32)) (by decide) ?_
  refine k_isub G X d7_8 (pc' := 9) rfl rfl ?_
  refine k_istoreN G X d7_9 (pc' := 10) rfl (l' := #[.val (.ref jw), .val (.int (zN - (1 : Int32)))]) rfl ?_
  refine k_iloadN G X d7_10 (pc' := 11) rfl rfl ?_
  refine k_if_lt G X d7_11 (pc' := 50) rfl (by decide) (pc'' := 14) rfl (fun c11 => ?_) (fun c11 => (absurd c11 (by rw [isub_toInt (by rw [hN, hLe]; decide) (by rw [hN, hLe]; decide), hN, hLe]; decide)))
  refine k_retv G X d7_50 rfl ?_ (by decide) (by decide)
  exact ⟨rfl, rfl⟩
set_option maxRecDepth 65536 in
set_option maxHeartbeats 40000000 in
theorem sepN {Z : State} {a0 : Array Value} (hw : HW a0 Z) (jw o b : Addr) (k : ClassId) (cap : Nat) (L : List Int32) (cs : Int32) (fm : Value) (i : Nat) (x : Int32) (h0 : Heap) (n0 : Nat) (sf0 : List Addr) (EJ : Exa Z h0 jw "com/example/half_message_commit/halfmessagecommit/protocol/JsonWriter") (JT : Fld Z h0 jw "com/example/half_message_commit/halfmessagecommit/protocol/JsonWriter" "text" "Ljava/lang/StringBuilder;" (.ref o)) (gm_o : n0 ≤ o ∧ o ∈ sf0) (gm_b : n0 ≤ b ∧ b ∈ sf0) (O : Old Z n0 h0) (BL : Bld Z h0 o b k cap L) (S_CS : Sta Z h0 "java/lang/String" "COMPACT_STRINGS" "Z" (.int cs)) (hcs : cs ≠ 0) (S_FM : Sta Z h0 "jdk/internal/util/Preconditions" "SIOOBE_FORMATTER" "Ljava/util/function/BiFunction;" fm) (hfm : fm.isRef = true) (hLi : L.length = i + 1) (hx : L.getD i 0 = x) (hx0 : 0 ≤ x.toInt) (hx1 : x.toInt ≤ 127) (hxx : x = 123 ∨ x = 91) :
    MetW Z consts_1 sf0 (⟨"com/example/half_message_commit/halfmessagecommit/protocol/JsonWriter", "separate", "()V"⟩ : MethodName) prog_24_method_12_code 2 none [] ({ frames := 4, cells := 0, slots := 0, locals := 56 } : Room) #[(.ref jw)] h0 n0 (fun v h sf => v = none ∧ h = h0) := by
  refine k_body (hEW hw) (f := (fun m => mkF m 0 #[.val (.ref jw), .unset] [])) pn_7 (fun m => by first | (simp [entryFrame, mkF, argsToLocals, Value.category, maxLocals]; done) | rfl) ?_
  intro Γ T G X
  have ge_o := gm_o.1
  have ge_b := gm_b.1
  have E := BL.1
  have YA := BL.2.1
  have ne_b_o : b ≠ o := BL.ne
  have ne_jw_o : jw ≠ o := ne_exa EJ E (by decide)
  have ne_jw_b : jw ≠ b := ne_exa EJ YA (by decide)
  have KP := Keep.refl h0 [o, b]
  have in_b : b = b ∨ h0.size ≤ b := Or.inl rfl
  obtain ⟨zN, hN, FN⟩ := BL.2.2.2.2.1
  have e1 : (1 : Int32).toInt = 1 := rfl
  have hji : (zN - (1 : Int32)).toInt = i := by have := rgI zN; rw [isub_toInt (by omega) (by omega)]; omega
  show Go Γ n0 _ T (mkF Γ.m 0 #[.val (.ref jw), .unset] [])
  refine k_aloadN G X d7_0 (pc' := 1) rfl rfl rfl ?_
  refine k_getF G X (host := "") (Or.inl (w35 hw)) Via.refl JT d7_1 (pc' := 4) rfl (fun T X => ?_)
  refine k_callV G X (argsL := []) (rest := []) rfl E (w47 hw) (w48 hw) (nf_sel (w50 hw)) (w50 hw) (w49 hw) (w12 hw) (w51 hw) (by decide) (sb_len hw o zN h0 n0 _ E FN) d7_4 pd11 rfl (pc' := 7) rfl rfl (wd := 0) rfl (by decide) (by decide) (by decide) (by decide) (fun T h4 v sf4 X q => ?_)
  replace X := W.drop X
  obtain ⟨rfl, e4⟩ := q
  replace X := X.eq e4
  show Go Γ n0 _ T (mkF Γ.m 7 #[.val (.ref jw), .unset] [(.int zN)])
  refine k_iconst G X d7_7 (pc' := 8) rfl (z := (1 : Int32)) (by decide) ?_
  refine k_isub G X d7_8 (pc' := 9) rfl rfl ?_
  refine k_istoreN G X d7_9 (pc' := 10) rfl (l' := #[.val (.ref jw), .val (.int (zN - (1 : Int32)))]) rfl ?_
  refine k_iloadN G X d7_10 (pc' := 11) rfl rfl ?_
  refine k_if_lt G X d7_11 (pc' := 50) rfl (by decide) (pc'' := 14) rfl (fun c11 => (absurd c11 (by omega))) (fun c11 => ?_)
  refine k_aloadN G X d7_14 (pc' := 15) rfl rfl rfl ?_
  refine k_getF G X (host := "") (Or.inl (w35 hw)) Via.refl JT d7_15 (pc' := 18) rfl (fun T X => ?_)
  refine k_iloadN G X d7_18 (pc' := 19) rfl rfl ?_
  refine k_callV G X (argsL := [(.int (zN - (1 : Int32)))]) (rest := []) rfl E (w97 hw) (w98 hw) (nf_sel (w100 hw)) (w100 hw) (w99 hw) (w12 hw) (w101 hw) (by decide) (sb_at hw o b k cap i L (zN - (1 : Int32)) x fm h0 n0 _ BL hji (by omega) hx hx0 hx1 S_FM hfm) d7_19 pd26 rfl (pc' := 22) rfl rfl (wd := 0) rfl (by decide) (by decide) (by decide) (by decide) (fun T h19 v sf19 X q => ?_)
  replace X := W.drop X
  obtain ⟨rfl, e19⟩ := q
  replace X := X.eq e19
  show Go Γ n0 _ T (mkF Γ.m 22 #[.val (.ref jw), .val (.int (zN - (1 : Int32)))] [(.int x)])
  refine k_bipush G X d7_22 (pc' := 24) rfl (z := (123 : Int32)) (by decide) ?_
  refine k_icmp_eq G X d7_24 (pc' := 50) rfl (by decide) (pc'' := 27) rfl (fun c24 => ?_) (fun c24 => ?_)
  · refine k_retv G X d7_50 rfl ?_ (by decide) (by decide)
    exact ⟨rfl, rfl⟩
  · refine k_aloadN G X d7_27 (pc' := 28) rfl rfl rfl ?_
    refine k_getF G X (host := "") (Or.inl (w35 hw)) Via.refl JT d7_28 (pc' := 31) rfl (fun T X => ?_)
    refine k_iloadN G X d7_31 (pc' := 32) rfl rfl ?_
    refine k_callV G X (argsL := [(.int (zN - (1 : Int32)))]) (rest := []) rfl E (w97 hw) (w98 hw) (nf_sel (w100 hw)) (w100 hw) (w99 hw) (w12 hw) (w101 hw) (by decide) (sb_at hw o b k cap i L (zN - (1 : Int32)) x fm h0 n0 _ BL hji (by omega) hx hx0 hx1 S_FM hfm) d7_32 pd26 rfl (pc' := 35) rfl rfl (wd := 0) rfl (by decide) (by decide) (by decide) (by decide) (fun T h32 v sf32 X q => ?_)
    replace X := W.drop X
    obtain ⟨rfl, e32⟩ := q
    replace X := X.eq e32
    show Go Γ n0 _ T (mkF Γ.m 35 #[.val (.ref jw), .val (.int (zN - (1 : Int32)))] [(.int x)])
    refine k_bipush G X d7_35 (pc' := 37) rfl (z := (91 : Int32)) (by decide) ?_
    refine k_icmp_eq G X d7_37 (pc' := 50) rfl (by decide) (pc'' := 40) rfl (fun c37 => ?_) (fun c37 => (absurd c37 (fun q => hxx.elim c24 q)))
    refine k_retv G X d7_50 rfl ?_ (by decide) (by decide)
    exact ⟨rfl, rfl⟩
set_option maxRecDepth 65536 in
set_option maxHeartbeats 40000000 in
theorem sepC {Z : State} {a0 : Array Value} (hw : HW a0 Z) (jw o b : Addr) (k : ClassId) (cap : Nat) (L : List Int32) (cs : Int32) (fm : Value) (i : Nat) (x : Int32) (h0 : Heap) (n0 : Nat) (sf0 : List Addr) (EJ : Exa Z h0 jw "com/example/half_message_commit/halfmessagecommit/protocol/JsonWriter") (JT : Fld Z h0 jw "com/example/half_message_commit/halfmessagecommit/protocol/JsonWriter" "text" "Ljava/lang/StringBuilder;" (.ref o)) (gm_o : n0 ≤ o ∧ o ∈ sf0) (gm_b : n0 ≤ b ∧ b ∈ sf0) (O : Old Z n0 h0) (BL : Bld Z h0 o b k cap L) (S_CS : Sta Z h0 "java/lang/String" "COMPACT_STRINGS" "Z" (.int cs)) (hcs : cs ≠ 0) (S_FM : Sta Z h0 "jdk/internal/util/Preconditions" "SIOOBE_FORMATTER" "Ljava/util/function/BiFunction;" fm) (hfm : fm.isRef = true) (hLi : L.length = i + 1) (hx : L.getD i 0 = x) (hx0 : 0 ≤ x.toInt) (hx1 : x.toInt ≤ 127) (hxa : x ≠ 123) (hxb : x ≠ 91) (hL : L.length + 1 ≤ 32) :
    MetW Z consts_1 sf0 (⟨"com/example/half_message_commit/halfmessagecommit/protocol/JsonWriter", "separate", "()V"⟩ : MethodName) prog_24_method_12_code 2 none [] ({ frames := 6, cells := 1, slots := 64, locals := 88 } : Room) #[(.ref jw)] h0 n0 (fun v h sf => v = none ∧ Keep h0 h [o, b] ∧ ∃ u ku cu, Bld Z h o u ku cu (L ++ [44]) ∧ (u = b ∨ h0.size ≤ u) ∧ n0 ≤ u ∧ u ∈ sf) := by
  refine k_body (hEW hw) (f := (fun m => mkF m 0 #[.val (.ref jw), .unset] [])) pn_7 (fun m => by first | (simp [entryFrame, mkF, argsToLocals, Value.category, maxLocals]; done) | rfl) ?_
  intro Γ T G X
  have ge_o := gm_o.1
  have ge_b := gm_b.1
  have E := BL.1
  have YA := BL.2.1
  have ne_b_o : b ≠ o := BL.ne
  have ne_jw_o : jw ≠ o := ne_exa EJ E (by decide)
  have ne_jw_b : jw ≠ b := ne_exa EJ YA (by decide)
  have KP := Keep.refl h0 [o, b]
  have in_b : b = b ∨ h0.size ≤ b := Or.inl rfl
  obtain ⟨zN, hN, FN⟩ := BL.2.2.2.2.1
  have e1 : (1 : Int32).toInt = 1 := rfl
  have hji : (zN - (1 : Int32)).toInt = i := by have := rgI zN; rw [isub_toInt (by omega) (by omega)]; omega
  show Go Γ n0 _ T (mkF Γ.m 0 #[.val (.ref jw), .unset] [])
  refine k_aloadN G X d7_0 (pc' := 1) rfl rfl rfl ?_
  refine k_getF G X (host := "") (Or.inl (w35 hw)) Via.refl JT d7_1 (pc' := 4) rfl (fun T X => ?_)
  refine k_callV G X (argsL := []) (rest := []) rfl E (w47 hw) (w48 hw) (nf_sel (w50 hw)) (w50 hw) (w49 hw) (w12 hw) (w51 hw) (by decide) (sb_len hw o zN h0 n0 _ E FN) d7_4 pd11 rfl (pc' := 7) rfl rfl (wd := 0) rfl (by decide) (by decide) (by decide) (by decide) (fun T h4 v sf4 X q => ?_)
  replace X := W.drop X
  obtain ⟨rfl, e4⟩ := q
  replace X := X.eq e4
  show Go Γ n0 _ T (mkF Γ.m 7 #[.val (.ref jw), .unset] [(.int zN)])
  refine k_iconst G X d7_7 (pc' := 8) rfl (z := (1 : Int32)) (by decide) ?_
  refine k_isub G X d7_8 (pc' := 9) rfl rfl ?_
  refine k_istoreN G X d7_9 (pc' := 10) rfl (l' := #[.val (.ref jw), .val (.int (zN - (1 : Int32)))]) rfl ?_
  refine k_iloadN G X d7_10 (pc' := 11) rfl rfl ?_
  refine k_if_lt G X d7_11 (pc' := 50) rfl (by decide) (pc'' := 14) rfl (fun c11 => (absurd c11 (by omega))) (fun c11 => ?_)
  refine k_aloadN G X d7_14 (pc' := 15) rfl rfl rfl ?_
  refine k_getF G X (host := "") (Or.inl (w35 hw)) Via.refl JT d7_15 (pc' := 18) rfl (fun T X => ?_)
  refine k_iloadN G X d7_18 (pc' := 19) rfl rfl ?_
  refine k_callV G X (argsL := [(.int (zN - (1 : Int32)))]) (rest := []) rfl E (w97 hw) (w98 hw) (nf_sel (w100 hw)) (w100 hw) (w99 hw) (w12 hw) (w101 hw) (by decide) (sb_at hw o b k cap i L (zN - (1 : Int32)) x fm h0 n0 _ BL hji (by omega) hx hx0 hx1 S_FM hfm) d7_19 pd26 rfl (pc' := 22) rfl rfl (wd := 0) rfl (by decide) (by decide) (by decide) (by decide) (fun T h19 v sf19 X q => ?_)
  replace X := W.drop X
  obtain ⟨rfl, e19⟩ := q
  replace X := X.eq e19
  show Go Γ n0 _ T (mkF Γ.m 22 #[.val (.ref jw), .val (.int (zN - (1 : Int32)))] [(.int x)])
  refine k_bipush G X d7_22 (pc' := 24) rfl (z := (123 : Int32)) (by decide) ?_
  refine k_icmp_eq G X d7_24 (pc' := 50) rfl (by decide) (pc'' := 27) rfl (fun c24 => (absurd c24 hxa)) (fun c24 => ?_)
  refine k_aloadN G X d7_27 (pc' := 28) rfl rfl rfl ?_
  refine k_getF G X (host := "") (Or.inl (w35 hw)) Via.refl JT d7_28 (pc' := 31) rfl (fun T X => ?_)
  refine k_iloadN G X d7_31 (pc' := 32) rfl rfl ?_
  refine k_callV G X (argsL := [(.int (zN - (1 : Int32)))]) (rest := []) rfl E (w97 hw) (w98 hw) (nf_sel (w100 hw)) (w100 hw) (w99 hw) (w12 hw) (w101 hw) (by decide) (sb_at hw o b k cap i L (zN - (1 : Int32)) x fm h0 n0 _ BL hji (by omega) hx hx0 hx1 S_FM hfm) d7_32 pd26 rfl (pc' := 35) rfl rfl (wd := 0) rfl (by decide) (by decide) (by decide) (by decide) (fun T h32 v sf32 X q => ?_)
  replace X := W.drop X
  obtain ⟨rfl, e32⟩ := q
  replace X := X.eq e32
  show Go Γ n0 _ T (mkF Γ.m 35 #[.val (.ref jw), .val (.int (zN - (1 : Int32)))] [(.int x)])
  refine k_bipush G X d7_35 (pc' := 37) rfl (z := (91 : Int32)) (by decide) ?_
  refine k_icmp_eq G X d7_37 (pc' := 50) rfl (by decide) (pc'' := 40) rfl (fun c37 => (absurd c37 hxb)) (fun c37 => ?_)
  refine k_aloadN G X d7_40 (pc' := 41) rfl rfl rfl ?_
  refine k_getF G X (host := "") (Or.inl (w35 hw)) Via.refl JT d7_41 (pc' := 44) rfl (fun T X => ?_)
  refine k_bipush G X d7_44 (pc' := 46) rfl (z := (44 : Int32)) (by decide) ?_
  refine k_callV G X (argsL := [(.int (44 : Int32))]) (rest := []) rfl E (w59 hw) (w60 hw) (nf_sel (w62 hw)) (w62 hw) (w61 hw) (w12 hw) (w63 hw) (by decide) (sb_ac hw o b k cap L cs (44 : Int32) h0 n0 _ ⟨ge_o, (List.mem_append_right [] gm_o.2)⟩ ⟨ge_b, (List.mem_append_right [] gm_b.2)⟩ O BL S_CS hcs (by decide) (by decide) (by first | omega | (simp only [List.length_append, List.length_cons, List.length_nil] <;> omega))) d7_46 pd30 rfl (pc' := 49) rfl rfl (wd := 0) rfl (by decide) (by decide) (by decide) (by decide) (fun T h46 v sf46 X q => ?_)
  obtain ⟨rfl, K46, u46, ku46, cu46, BLn, hu46, ge_u46, mu46⟩ := q
  replace X := W.only X mu46
  have ne_u46_o : u46 ≠ o := BLn.ne
  have in_u46 := in_step in_b hu46 KP.1
  have ne_jw_u46 : jw ≠ u46 := ne_new hu46 ne_jw_b EJ.lt
  replace S_CS := Sta_keepL S_CS K46 (allS (Pln_exa E) (allS (Pln_exa YA) (all0)))
  replace S_FM := Sta_keepL S_FM K46 (allS (Pln_exa E) (allS (Pln_exa YA) (all0)))
  replace EJ := EJ.keep K46
  replace JT := JT.keep K46 (nin2 ne_jw_o ne_jw_b)
  replace E := E.keep K46
  replace YA := YA.keep K46
  replace O := O.keep K46 (allS ge_o (allS ge_b (all0)))
  replace KP := KP.trans K46 (allS (Or.inl (List.mem_of_getElem? (i := 0) rfl)) (allS (Or.inl (List.mem_of_getElem? (i := 1) rfl)) (all0)))
  have BL : Bld Z _ o u46 ku46 cu46 (L ++ [44]) := BLn
  have YA := BL.2.1
  show Go Γ n0 _ T (mkF Γ.m 49 #[.val (.ref jw), .val (.int (zN - (1 : Int32)))] [(.ref o)])
  refine k_pop G X d7_49 (pc' := 50) rfl rfl ?_
  refine k_retv G X d7_50 rfl ?_ (by decide) (by decide)
  exact ⟨rfl, KP, u46, ku46, cu46, BL, in_u46, ge_u46, (List.mem_of_getElem? (i := 0) rfl)⟩
theorem pn_6 : plainFor (⟨"com/example/half_message_commit/halfmessagecommit/protocol/JsonWriter", "beginObject", "()V"⟩ : MethodName) = true := plainFor_of_name (by first | (simp [plainName, overriddenIn]; done) | decide +kernel)
set_option maxRecDepth 65536 in
set_option maxHeartbeats 40000000 in
theorem boE {Z : State} {a0 : Array Value} (hw : HW a0 Z) (jw o b : Addr) (k : ClassId) (cap : Nat) (L : List Int32) (cs : Int32) (h0 : Heap) (n0 : Nat) (sf0 : List Addr) (EJ : Exa Z h0 jw "com/example/half_message_commit/halfmessagecommit/protocol/JsonWriter") (JT : Fld Z h0 jw "com/example/half_message_commit/halfmessagecommit/protocol/JsonWriter" "text" "Ljava/lang/StringBuilder;" (.ref o)) (gm_o : n0 ≤ o ∧ o ∈ sf0) (gm_b : n0 ≤ b ∧ b ∈ sf0) (O : Old Z n0 h0) (BL : Bld Z h0 o b k cap L) (S_CS : Sta Z h0 "java/lang/String" "COMPACT_STRINGS" "Z" (.int cs)) (hcs : cs ≠ 0) (hLe : L = []) :
    MetW Z consts_1 sf0 (⟨"com/example/half_message_commit/halfmessagecommit/protocol/JsonWriter", "beginObject", "()V"⟩ : MethodName) prog_24_method_3_code 1 none [] ({ frames := 6, cells := 1, slots := 64, locals := 88 } : Room) #[(.ref jw)] h0 n0 (fun v h sf => v = none ∧ Keep h0 h [o, b] ∧ ∃ u ku cu, Bld Z h o u ku cu (L ++ [123]) ∧ (u = b ∨ h0.size ≤ u) ∧ n0 ≤ u ∧ u ∈ sf) := by
  refine k_body (hEW hw) (f := (fun m => mkF m 0 #[.val (.ref jw)] [])) pn_6 (fun m => by first | (simp [entryFrame, mkF, argsToLocals, Value.category, maxLocals]; done) | rfl) ?_
  intro Γ T G X
  have ge_o := gm_o.1
  have ge_b := gm_b.1
  have E := BL.1
  have YA := BL.2.1
  have ne_b_o : b ≠ o := BL.ne
  have ne_jw_o : jw ≠ o := ne_exa EJ E (by decide)
  have ne_jw_b : jw ≠ b := ne_exa EJ YA (by decide)
  have KP := Keep.refl h0 [o, b]
  have in_b : b = b ∨ h0.size ≤ b := Or.inl rfl
  have hL : L.length + 1 ≤ 32 := by rw [hLe]; decide
  show Go Γ n0 _ T (mkF Γ.m 0 #[.val (.ref jw)] [])
  refine k_aloadN G X d6_0 (pc' := 1) rfl rfl rfl ?_
  refine k_callP G X (argsL := []) (rest := []) rfl EJ (w43 hw) (w44 hw) (selP (w1 hw) (w45 hw) (w44 hw) (by decide)) (w45 hw) (w2 hw) (w46 hw) (by decide) (sepE hw jw o b k cap L cs h0 n0 _ EJ JT ⟨ge_o, (List.mem_append_right [] gm_o.2)⟩ ⟨ge_b, (List.mem_append_right [] gm_b.2)⟩ O BL S_CS hcs hLe) d6_1 pd31 rfl (pc' := 4) rfl rfl (wd := 0) rfl (by decide) (by decide) (by decide) (by decide) (fun T h1 v sf1 X q => ?_)
  replace X := W.drop X
  obtain ⟨rfl, e1⟩ := q
  replace X := X.eq e1
  show Go Γ n0 _ T (mkF Γ.m 4 #[.val (.ref jw)] [])
  refine k_aloadN G X d6_4 (pc' := 5) rfl rfl rfl ?_
  refine k_getF G X (host := "") (Or.inl (w35 hw)) Via.refl JT d6_5 (pc' := 8) rfl (fun T X => ?_)
  refine k_bipush G X d6_8 (pc' := 10) rfl (z := (123 : Int32)) (by decide) ?_
  refine k_callV G X (argsL := [(.int (123 : Int32))]) (rest := []) rfl E (w59 hw) (w60 hw) (nf_sel (w62 hw)) (w62 hw) (w61 hw) (w12 hw) (w63 hw) (by decide) (sb_ac hw o b k cap L cs (123 : Int32) h0 n0 _ ⟨ge_o, (List.mem_append_right [] gm_o.2)⟩ ⟨ge_b, (List.mem_append_right [] gm_b.2)⟩ O BL S_CS hcs (by decide) (by decide) (by first | omega | (simp only [List.length_append, List.length_cons, List.length_nil] <;> omega))) d6_10 pd30 rfl (pc' := 13) rfl rfl (wd := 0) rfl (by decide) (by decide) (by decide) (by decide) (fun T h10 v sf10 X q => ?_)
  obtain ⟨rfl, K10, u10, ku10, cu10, BLn, hu10, ge_u10, mu10⟩ := q
  replace X := W.only X mu10
  have ne_u10_o : u10 ≠ o := BLn.ne
  have in_u10 := in_step in_b hu10 KP.1
  have ne_jw_u10 : jw ≠ u10 := ne_new hu10 ne_jw_b EJ.lt
  replace S_CS := Sta_keepL S_CS K10 (allS (Pln_exa E) (allS (Pln_exa YA) (all0)))
  replace EJ := EJ.keep K10
  replace JT := JT.keep K10 (nin2 ne_jw_o ne_jw_b)
  replace E := E.keep K10
  replace YA := YA.keep K10
  replace O := O.keep K10 (allS ge_o (allS ge_b (all0)))
  replace KP := KP.trans K10 (allS (Or.inl (List.mem_of_getElem? (i := 0) rfl)) (allS (Or.inl (List.mem_of_getElem? (i := 1) rfl)) (all0)))
  have BL : Bld Z _ o u10 ku10 cu10 (L ++ [123]) := BLn
  have YA := BL.2.1
  show Go Γ n0 _ T (mkF Γ.m 13 #[.val (.ref jw)] [(.ref o)])
  refine k_pop G X d6_13 (pc' := 14) rfl rfl ?_
  refine k_retv G X d6_14 rfl ?_ (by decide) (by decide)
  exact ⟨rfl, KP, u10, ku10, cu10, BL, in_u10, ge_u10, (List.mem_of_getElem? (i := 0) rfl)⟩
set_option maxRecDepth 65536 in
set_option maxHeartbeats 40000000 in
theorem boN {Z : State} {a0 : Array Value} (hw : HW a0 Z) (jw o b : Addr) (k : ClassId) (cap : Nat) (L : List Int32) (cs : Int32) (fm : Value) (i : Nat) (x : Int32) (h0 : Heap) (n0 : Nat) (sf0 : List Addr) (EJ : Exa Z h0 jw "com/example/half_message_commit/halfmessagecommit/protocol/JsonWriter") (JT : Fld Z h0 jw "com/example/half_message_commit/halfmessagecommit/protocol/JsonWriter" "text" "Ljava/lang/StringBuilder;" (.ref o)) (gm_o : n0 ≤ o ∧ o ∈ sf0) (gm_b : n0 ≤ b ∧ b ∈ sf0) (O : Old Z n0 h0) (BL : Bld Z h0 o b k cap L) (S_CS : Sta Z h0 "java/lang/String" "COMPACT_STRINGS" "Z" (.int cs)) (hcs : cs ≠ 0) (S_FM : Sta Z h0 "jdk/internal/util/Preconditions" "SIOOBE_FORMATTER" "Ljava/util/function/BiFunction;" fm) (hfm : fm.isRef = true) (hLi : L.length = i + 1) (hx : L.getD i 0 = x) (hx0 : 0 ≤ x.toInt) (hx1 : x.toInt ≤ 127) (hxx : x = 123 ∨ x = 91) (hL : L.length + 1 ≤ 32) :
    MetW Z consts_1 sf0 (⟨"com/example/half_message_commit/halfmessagecommit/protocol/JsonWriter", "beginObject", "()V"⟩ : MethodName) prog_24_method_3_code 1 none [] ({ frames := 6, cells := 1, slots := 64, locals := 88 } : Room) #[(.ref jw)] h0 n0 (fun v h sf => v = none ∧ Keep h0 h [o, b] ∧ ∃ u ku cu, Bld Z h o u ku cu (L ++ [123]) ∧ (u = b ∨ h0.size ≤ u) ∧ n0 ≤ u ∧ u ∈ sf) := by
  refine k_body (hEW hw) (f := (fun m => mkF m 0 #[.val (.ref jw)] [])) pn_6 (fun m => by first | (simp [entryFrame, mkF, argsToLocals, Value.category, maxLocals]; done) | rfl) ?_
  intro Γ T G X
  have ge_o := gm_o.1
  have ge_b := gm_b.1
  have E := BL.1
  have YA := BL.2.1
  have ne_b_o : b ≠ o := BL.ne
  have ne_jw_o : jw ≠ o := ne_exa EJ E (by decide)
  have ne_jw_b : jw ≠ b := ne_exa EJ YA (by decide)
  have KP := Keep.refl h0 [o, b]
  have in_b : b = b ∨ h0.size ≤ b := Or.inl rfl
  show Go Γ n0 _ T (mkF Γ.m 0 #[.val (.ref jw)] [])
  refine k_aloadN G X d6_0 (pc' := 1) rfl rfl rfl ?_
  refine k_callP G X (argsL := []) (rest := []) rfl EJ (w43 hw) (w44 hw) (selP (w1 hw) (w45 hw) (w44 hw) (by decide)) (w45 hw) (w2 hw) (w46 hw) (by decide) (sepN hw jw o b k cap L cs fm i x h0 n0 _ EJ JT ⟨ge_o, (List.mem_append_right [] gm_o.2)⟩ ⟨ge_b, (List.mem_append_right [] gm_b.2)⟩ O BL S_CS hcs S_FM hfm hLi hx hx0 hx1 hxx) d6_1 pd31 rfl (pc' := 4) rfl rfl (wd := 0) rfl (by decide) (by decide) (by decide) (by decide) (fun T h1 v sf1 X q => ?_)
  replace X := W.drop X
  obtain ⟨rfl, e1⟩ := q
  replace X := X.eq e1
  show Go Γ n0 _ T (mkF Γ.m 4 #[.val (.ref jw)] [])
  refine k_aloadN G X d6_4 (pc' := 5) rfl rfl rfl ?_
  refine k_getF G X (host := "") (Or.inl (w35 hw)) Via.refl JT d6_5 (pc' := 8) rfl (fun T X => ?_)
  refine k_bipush G X d6_8 (pc' := 10) rfl (z := (123 : Int32)) (by decide) ?_
  refine k_callV G X (argsL := [(.int (123 : Int32))]) (rest := []) rfl E (w59 hw) (w60 hw) (nf_sel (w62 hw)) (w62 hw) (w61 hw) (w12 hw) (w63 hw) (by decide) (sb_ac hw o b k cap L cs (123 : Int32) h0 n0 _ ⟨ge_o, (List.mem_append_right [] gm_o.2)⟩ ⟨ge_b, (List.mem_append_right [] gm_b.2)⟩ O BL S_CS hcs (by decide) (by decide) (by first | omega | (simp only [List.length_append, List.length_cons, List.length_nil] <;> omega))) d6_10 pd30 rfl (pc' := 13) rfl rfl (wd := 0) rfl (by decide) (by decide) (by decide) (by decide) (fun T h10 v sf10 X q => ?_)
  obtain ⟨rfl, K10, u10, ku10, cu10, BLn, hu10, ge_u10, mu10⟩ := q
  replace X := W.only X mu10
  have ne_u10_o : u10 ≠ o := BLn.ne
  have in_u10 := in_step in_b hu10 KP.1
  have ne_jw_u10 : jw ≠ u10 := ne_new hu10 ne_jw_b EJ.lt
  replace S_CS := Sta_keepL S_CS K10 (allS (Pln_exa E) (allS (Pln_exa YA) (all0)))
  replace S_FM := Sta_keepL S_FM K10 (allS (Pln_exa E) (allS (Pln_exa YA) (all0)))
  replace EJ := EJ.keep K10
  replace JT := JT.keep K10 (nin2 ne_jw_o ne_jw_b)
  replace E := E.keep K10
  replace YA := YA.keep K10
  replace O := O.keep K10 (allS ge_o (allS ge_b (all0)))
  replace KP := KP.trans K10 (allS (Or.inl (List.mem_of_getElem? (i := 0) rfl)) (allS (Or.inl (List.mem_of_getElem? (i := 1) rfl)) (all0)))
  have BL : Bld Z _ o u10 ku10 cu10 (L ++ [123]) := BLn
  have YA := BL.2.1
  show Go Γ n0 _ T (mkF Γ.m 13 #[.val (.ref jw)] [(.ref o)])
  refine k_pop G X d6_13 (pc' := 14) rfl rfl ?_
  refine k_retv G X d6_14 rfl ?_ (by decide) (by decide)
  exact ⟨rfl, KP, u10, ku10, cu10, BL, in_u10, ge_u10, (List.mem_of_getElem? (i := 0) rfl)⟩
set_option maxRecDepth 65536 in
set_option maxHeartbeats 40000000 in
theorem boC {Z : State} {a0 : Array Value} (hw : HW a0 Z) (jw o b : Addr) (k : ClassId) (cap : Nat) (L : List Int32) (cs : Int32) (fm : Value) (i : Nat) (x : Int32) (h0 : Heap) (n0 : Nat) (sf0 : List Addr) (EJ : Exa Z h0 jw "com/example/half_message_commit/halfmessagecommit/protocol/JsonWriter") (JT : Fld Z h0 jw "com/example/half_message_commit/halfmessagecommit/protocol/JsonWriter" "text" "Ljava/lang/StringBuilder;" (.ref o)) (gm_o : n0 ≤ o ∧ o ∈ sf0) (gm_b : n0 ≤ b ∧ b ∈ sf0) (O : Old Z n0 h0) (BL : Bld Z h0 o b k cap L) (S_CS : Sta Z h0 "java/lang/String" "COMPACT_STRINGS" "Z" (.int cs)) (hcs : cs ≠ 0) (S_FM : Sta Z h0 "jdk/internal/util/Preconditions" "SIOOBE_FORMATTER" "Ljava/util/function/BiFunction;" fm) (hfm : fm.isRef = true) (hLi : L.length = i + 1) (hx : L.getD i 0 = x) (hx0 : 0 ≤ x.toInt) (hx1 : x.toInt ≤ 127) (hxa : x ≠ 123) (hxb : x ≠ 91) (hL : L.length + 2 ≤ 32) :
    MetW Z consts_1 sf0 (⟨"com/example/half_message_commit/halfmessagecommit/protocol/JsonWriter", "beginObject", "()V"⟩ : MethodName) prog_24_method_3_code 1 none [] ({ frames := 7, cells := 2, slots := 128, locals := 101 } : Room) #[(.ref jw)] h0 n0 (fun v h sf => v = none ∧ Keep h0 h [o, b] ∧ ∃ u ku cu, Bld Z h o u ku cu ((L ++ [44]) ++ [123]) ∧ (u = b ∨ h0.size ≤ u) ∧ n0 ≤ u ∧ u ∈ sf) := by
  refine k_body (hEW hw) (f := (fun m => mkF m 0 #[.val (.ref jw)] [])) pn_6 (fun m => by first | (simp [entryFrame, mkF, argsToLocals, Value.category, maxLocals]; done) | rfl) ?_
  intro Γ T G X
  have ge_o := gm_o.1
  have ge_b := gm_b.1
  have E := BL.1
  have YA := BL.2.1
  have ne_b_o : b ≠ o := BL.ne
  have ne_jw_o : jw ≠ o := ne_exa EJ E (by decide)
  have ne_jw_b : jw ≠ b := ne_exa EJ YA (by decide)
  have KP := Keep.refl h0 [o, b]
  have in_b : b = b ∨ h0.size ≤ b := Or.inl rfl
  show Go Γ n0 _ T (mkF Γ.m 0 #[.val (.ref jw)] [])
  refine k_aloadN G X d6_0 (pc' := 1) rfl rfl rfl ?_
  refine k_callP G X (argsL := []) (rest := []) rfl EJ (w43 hw) (w44 hw) (selP (w1 hw) (w45 hw) (w44 hw) (by decide)) (w45 hw) (w2 hw) (w46 hw) (by decide) (sepC hw jw o b k cap L cs fm i x h0 n0 _ EJ JT ⟨ge_o, (List.mem_append_right [] gm_o.2)⟩ ⟨ge_b, (List.mem_append_right [] gm_b.2)⟩ O BL S_CS hcs S_FM hfm hLi hx hx0 hx1 hxa hxb (by omega)) d6_1 pd31 rfl (pc' := 4) rfl rfl (wd := 0) rfl (by decide) (by decide) (by decide) (by decide) (fun T h1 v sf1 X q => ?_)
  obtain ⟨rfl, K1, u1, ku1, cu1, BLn, hu1, ge_u1, mu1⟩ := q
  replace X := W.only X mu1
  have ne_u1_o : u1 ≠ o := BLn.ne
  have in_u1 := in_step in_b hu1 KP.1
  have ne_jw_u1 : jw ≠ u1 := ne_new hu1 ne_jw_b EJ.lt
  replace S_CS := Sta_keepL S_CS K1 (allS (Pln_exa E) (allS (Pln_exa YA) (all0)))
  replace S_FM := Sta_keepL S_FM K1 (allS (Pln_exa E) (allS (Pln_exa YA) (all0)))
  replace EJ := EJ.keep K1
  replace JT := JT.keep K1 (nin2 ne_jw_o ne_jw_b)
  replace E := E.keep K1
  replace YA := YA.keep K1
  replace O := O.keep K1 (allS ge_o (allS ge_b (all0)))
  replace KP := KP.trans K1 (allS (Or.inl (List.mem_of_getElem? (i := 0) rfl)) (allS (Or.inl (List.mem_of_getElem? (i := 1) rfl)) (all0)))
  have BL : Bld Z _ o u1 ku1 cu1 (L ++ [44]) := BLn
  have YA := BL.2.1
  show Go Γ n0 _ T (mkF Γ.m 4 #[.val (.ref jw)] [])
  refine k_aloadN G X d6_4 (pc' := 5) rfl rfl rfl ?_
  refine k_getF G X (host := "") (Or.inl (w35 hw)) Via.refl JT d6_5 (pc' := 8) rfl (fun T X => ?_)
  refine k_bipush G X d6_8 (pc' := 10) rfl (z := (123 : Int32)) (by decide) ?_
  refine k_callV G X (argsL := [(.int (123 : Int32))]) (rest := []) rfl E (w59 hw) (w60 hw) (nf_sel (w62 hw)) (w62 hw) (w61 hw) (w12 hw) (w63 hw) (by decide) (sb_ac hw o u1 ku1 cu1 (L ++ [44]) cs (123 : Int32) h1 n0 _ ⟨ge_o, (List.mem_append_right [u1] gm_o.2)⟩ ⟨ge_u1, (List.mem_of_getElem? (i := 0) rfl)⟩ O BL S_CS hcs (by decide) (by decide) (by first | omega | (simp only [List.length_append, List.length_cons, List.length_nil] <;> omega))) d6_10 pd30 rfl (pc' := 13) rfl rfl (wd := 0) rfl (by decide) (by decide) (by decide) (by decide) (fun T h10 v sf10 X q => ?_)
  obtain ⟨rfl, K10, u10, ku10, cu10, BLn, hu10, ge_u10, mu10⟩ := q
  replace X := W.only X mu10
  have ne_u10_o : u10 ≠ o := BLn.ne
  have in_u10 := in_step in_u1 hu10 KP.1
  have ne_jw_u10 : jw ≠ u10 := ne_new hu10 ne_jw_u1 EJ.lt
  replace S_CS := Sta_keepL S_CS K10 (allS (Pln_exa E) (allS (Pln_exa YA) (all0)))
  replace S_FM := Sta_keepL S_FM K10 (allS (Pln_exa E) (allS (Pln_exa YA) (all0)))
  replace EJ := EJ.keep K10
  replace JT := JT.keep K10 (nin2 ne_jw_o ne_jw_u1)
  replace E := E.keep K10
  replace O := O.keep K10 (allS ge_o (allS ge_u1 (all0)))
  replace KP := KP.trans K10 (allS (Or.inl (List.mem_of_getElem? (i := 0) rfl)) (allS (in_mem in_u1) (all0)))
  replace YA := YA.keep K10
  have BL : Bld Z _ o u10 ku10 cu10 ((L ++ [44]) ++ [123]) := BLn
  have YA := BL.2.1
  show Go Γ n0 _ T (mkF Γ.m 13 #[.val (.ref jw)] [(.ref o)])
  refine k_pop G X d6_13 (pc' := 14) rfl rfl ?_
  refine k_retv G X d6_14 rfl ?_ (by decide) (by decide)
  exact ⟨rfl, KP, u10, ku10, cu10, BL, in_u10, ge_u10, (List.mem_of_getElem? (i := 0) rfl)⟩
theorem pn_53 : plainFor (⟨"com/example/half_message_commit/halfmessagecommit/protocol/JsonWriter", "endObject", "()V"⟩ : MethodName) = true := plainFor_of_name (by first | (simp [plainName, overriddenIn]; done) | decide +kernel)
set_option maxRecDepth 65536 in
set_option maxHeartbeats 40000000 in
theorem eo {Z : State} {a0 : Array Value} (hw : HW a0 Z) (jw o b : Addr) (k : ClassId) (cap : Nat) (L : List Int32) (cs : Int32) (h0 : Heap) (n0 : Nat) (sf0 : List Addr) (EJ : Exa Z h0 jw "com/example/half_message_commit/halfmessagecommit/protocol/JsonWriter") (JT : Fld Z h0 jw "com/example/half_message_commit/halfmessagecommit/protocol/JsonWriter" "text" "Ljava/lang/StringBuilder;" (.ref o)) (gm_o : n0 ≤ o ∧ o ∈ sf0) (gm_b : n0 ≤ b ∧ b ∈ sf0) (O : Old Z n0 h0) (BL : Bld Z h0 o b k cap L) (S_CS : Sta Z h0 "java/lang/String" "COMPACT_STRINGS" "Z" (.int cs)) (hcs : cs ≠ 0) (hL : L.length + 1 ≤ 32) :
    MetW Z consts_1 sf0 (⟨"com/example/half_message_commit/halfmessagecommit/protocol/JsonWriter", "endObject", "()V"⟩ : MethodName) prog_24_method_4_code 1 none [] ({ frames := 6, cells := 1, slots := 64, locals := 88 } : Room) #[(.ref jw)] h0 n0 (fun v h sf => v = none ∧ Keep h0 h [o, b] ∧ ∃ u ku cu, Bld Z h o u ku cu (L ++ [125]) ∧ (u = b ∨ h0.size ≤ u) ∧ n0 ≤ u ∧ u ∈ sf) := by
  refine k_body (hEW hw) (f := (fun m => mkF m 0 #[.val (.ref jw)] [])) pn_53 (fun m => by first | (simp [entryFrame, mkF, argsToLocals, Value.category, maxLocals]; done) | rfl) ?_
  intro Γ T G X
  have ge_o := gm_o.1
  have ge_b := gm_b.1
  have E := BL.1
  have YA := BL.2.1
  have ne_b_o : b ≠ o := BL.ne
  have ne_jw_o : jw ≠ o := ne_exa EJ E (by decide)
  have ne_jw_b : jw ≠ b := ne_exa EJ YA (by decide)
  have KP := Keep.refl h0 [o, b]
  have in_b : b = b ∨ h0.size ≤ b := Or.inl rfl
  show Go Γ n0 _ T (mkF Γ.m 0 #[.val (.ref jw)] [])
  refine k_aloadN G X d53_0 (pc' := 1) rfl rfl rfl ?_
  refine k_getF G X (host := "") (Or.inl (w35 hw)) Via.refl JT d53_1 (pc' := 4) rfl (fun T X => ?_)
  refine k_bipush G X d53_4 (pc' := 6) rfl (z := (125 : Int32)) (by decide) ?_
  refine k_callV G X (argsL := [(.int (125 : Int32))]) (rest := []) rfl E (w59 hw) (w60 hw) (nf_sel (w62 hw)) (w62 hw) (w61 hw) (w12 hw) (w63 hw) (by decide) (sb_ac hw o b k cap L cs (125 : Int32) h0 n0 _ ⟨ge_o, (List.mem_append_right [] gm_o.2)⟩ ⟨ge_b, (List.mem_append_right [] gm_b.2)⟩ O BL S_CS hcs (by decide) (by decide) (by first | omega | (simp only [List.length_append, List.length_cons, List.length_nil] <;> omega))) d53_6 pd30 rfl (pc' := 9) rfl rfl (wd := 0) rfl (by decide) (by decide) (by decide) (by decide) (fun T h6 v sf6 X q => ?_)
  obtain ⟨rfl, K6, u6, ku6, cu6, BLn, hu6, ge_u6, mu6⟩ := q
  replace X := W.only X mu6
  have ne_u6_o : u6 ≠ o := BLn.ne
  have in_u6 := in_step in_b hu6 KP.1
  have ne_jw_u6 : jw ≠ u6 := ne_new hu6 ne_jw_b EJ.lt
  replace S_CS := Sta_keepL S_CS K6 (allS (Pln_exa E) (allS (Pln_exa YA) (all0)))
  replace EJ := EJ.keep K6
  replace JT := JT.keep K6 (nin2 ne_jw_o ne_jw_b)
  replace E := E.keep K6
  replace YA := YA.keep K6
  replace O := O.keep K6 (allS ge_o (allS ge_b (all0)))
  replace KP := KP.trans K6 (allS (Or.inl (List.mem_of_getElem? (i := 0) rfl)) (allS (Or.inl (List.mem_of_getElem? (i := 1) rfl)) (all0)))
  have BL : Bld Z _ o u6 ku6 cu6 (L ++ [125]) := BLn
  have YA := BL.2.1
  show Go Γ n0 _ T (mkF Γ.m 9 #[.val (.ref jw)] [(.ref o)])
  refine k_pop G X d53_9 (pc' := 10) rfl rfl ?_
  refine k_retv G X d53_10 rfl ?_ (by decide) (by decide)
  exact ⟨rfl, KP, u6, ku6, cu6, BL, in_u6, ge_u6, (List.mem_of_getElem? (i := 0) rfl)⟩
theorem pn_57 : plainFor (⟨"com/example/half_message_commit/halfmessagecommit/protocol/JsonWriter", "endArray", "()V"⟩ : MethodName) = true := plainFor_of_name (by first | (simp [plainName, overriddenIn]; done) | decide +kernel)
set_option maxRecDepth 65536 in
set_option maxHeartbeats 40000000 in
theorem ea {Z : State} {a0 : Array Value} (hw : HW a0 Z) (jw o b : Addr) (k : ClassId) (cap : Nat) (L : List Int32) (cs : Int32) (h0 : Heap) (n0 : Nat) (sf0 : List Addr) (EJ : Exa Z h0 jw "com/example/half_message_commit/halfmessagecommit/protocol/JsonWriter") (JT : Fld Z h0 jw "com/example/half_message_commit/halfmessagecommit/protocol/JsonWriter" "text" "Ljava/lang/StringBuilder;" (.ref o)) (gm_o : n0 ≤ o ∧ o ∈ sf0) (gm_b : n0 ≤ b ∧ b ∈ sf0) (O : Old Z n0 h0) (BL : Bld Z h0 o b k cap L) (S_CS : Sta Z h0 "java/lang/String" "COMPACT_STRINGS" "Z" (.int cs)) (hcs : cs ≠ 0) (hL : L.length + 1 ≤ 32) :
    MetW Z consts_1 sf0 (⟨"com/example/half_message_commit/halfmessagecommit/protocol/JsonWriter", "endArray", "()V"⟩ : MethodName) prog_24_method_6_code 1 none [] ({ frames := 6, cells := 1, slots := 64, locals := 88 } : Room) #[(.ref jw)] h0 n0 (fun v h sf => v = none ∧ Keep h0 h [o, b] ∧ ∃ u ku cu, Bld Z h o u ku cu (L ++ [93]) ∧ (u = b ∨ h0.size ≤ u) ∧ n0 ≤ u ∧ u ∈ sf) := by
  refine k_body (hEW hw) (f := (fun m => mkF m 0 #[.val (.ref jw)] [])) pn_57 (fun m => by first | (simp [entryFrame, mkF, argsToLocals, Value.category, maxLocals]; done) | rfl) ?_
  intro Γ T G X
  have ge_o := gm_o.1
  have ge_b := gm_b.1
  have E := BL.1
  have YA := BL.2.1
  have ne_b_o : b ≠ o := BL.ne
  have ne_jw_o : jw ≠ o := ne_exa EJ E (by decide)
  have ne_jw_b : jw ≠ b := ne_exa EJ YA (by decide)
  have KP := Keep.refl h0 [o, b]
  have in_b : b = b ∨ h0.size ≤ b := Or.inl rfl
  show Go Γ n0 _ T (mkF Γ.m 0 #[.val (.ref jw)] [])
  refine k_aloadN G X d57_0 (pc' := 1) rfl rfl rfl ?_
  refine k_getF G X (host := "") (Or.inl (w35 hw)) Via.refl JT d57_1 (pc' := 4) rfl (fun T X => ?_)
  refine k_bipush G X d57_4 (pc' := 6) rfl (z := (93 : Int32)) (by decide) ?_
  refine k_callV G X (argsL := [(.int (93 : Int32))]) (rest := []) rfl E (w59 hw) (w60 hw) (nf_sel (w62 hw)) (w62 hw) (w61 hw) (w12 hw) (w63 hw) (by decide) (sb_ac hw o b k cap L cs (93 : Int32) h0 n0 _ ⟨ge_o, (List.mem_append_right [] gm_o.2)⟩ ⟨ge_b, (List.mem_append_right [] gm_b.2)⟩ O BL S_CS hcs (by decide) (by decide) (by first | omega | (simp only [List.length_append, List.length_cons, List.length_nil] <;> omega))) d57_6 pd30 rfl (pc' := 9) rfl rfl (wd := 0) rfl (by decide) (by decide) (by decide) (by decide) (fun T h6 v sf6 X q => ?_)
  obtain ⟨rfl, K6, u6, ku6, cu6, BLn, hu6, ge_u6, mu6⟩ := q
  replace X := W.only X mu6
  have ne_u6_o : u6 ≠ o := BLn.ne
  have in_u6 := in_step in_b hu6 KP.1
  have ne_jw_u6 : jw ≠ u6 := ne_new hu6 ne_jw_b EJ.lt
  replace S_CS := Sta_keepL S_CS K6 (allS (Pln_exa E) (allS (Pln_exa YA) (all0)))
  replace EJ := EJ.keep K6
  replace JT := JT.keep K6 (nin2 ne_jw_o ne_jw_b)
  replace E := E.keep K6
  replace YA := YA.keep K6
  replace O := O.keep K6 (allS ge_o (allS ge_b (all0)))
  replace KP := KP.trans K6 (allS (Or.inl (List.mem_of_getElem? (i := 0) rfl)) (allS (Or.inl (List.mem_of_getElem? (i := 1) rfl)) (all0)))
  have BL : Bld Z _ o u6 ku6 cu6 (L ++ [93]) := BLn
  have YA := BL.2.1
  show Go Γ n0 _ T (mkF Γ.m 9 #[.val (.ref jw)] [(.ref o)])
  refine k_pop G X d57_9 (pc' := 10) rfl rfl ?_
  refine k_retv G X d57_10 rfl ?_ (by decide) (by decide)
  exact ⟨rfl, KP, u6, ku6, cu6, BL, in_u6, ge_u6, (List.mem_of_getElem? (i := 0) rfl)⟩
theorem pn_22 : plainFor (⟨"com/example/half_message_commit/halfmessagecommit/protocol/JsonWriter", "string", "(Ljava/lang/String;)V"⟩ : MethodName) = true := plainFor_of_name (by first | (simp [plainName, overriddenIn]; done) | decide +kernel)
set_option maxRecDepth 65536 in
set_option maxHeartbeats 40000000 in
theorem jstr {Z : State} {a0 : Array Value} (hw : HW a0 Z) (jw o b : Addr) (k : ClassId) (cap : Nat) (L : List Int32) (cs : Int32) (fm : Value) (s d : Addr) (kd : ClassId) (fs : Nat → Int32) (fi : Value) (h0 : Heap) (n0 : Nat) (sf0 : List Addr) (EJ : Exa Z h0 jw "com/example/half_message_commit/halfmessagecommit/protocol/JsonWriter") (JT : Fld Z h0 jw "com/example/half_message_commit/halfmessagecommit/protocol/JsonWriter" "text" "Ljava/lang/StringBuilder;" (.ref o)) (gm_o : n0 ≤ o ∧ o ∈ sf0) (gm_b : n0 ≤ b ∧ b ∈ sf0) (O : Old Z n0 h0) (BL : Bld Z h0 o b k cap L) (S_CS : Sta Z h0 "java/lang/String" "COMPACT_STRINGS" "Z" (.int cs)) (hcs : cs ≠ 0) (S_FM : Sta Z h0 "jdk/internal/util/Preconditions" "SIOOBE_FORMATTER" "Ljava/util/function/BiFunction;" fm) (hfm : fm.isRef = true) (SS : Str Z h0 s d kd 1 fs) (hf0 : fs 0 = 97) (ne_s_o : s ≠ o) (ne_d_o : d ≠ o) (ne_s_b : s ≠ b) (ne_d_b : d ≠ b) (S_FI : Sta Z h0 "jdk/internal/util/Preconditions" "IOOBE_FORMATTER" "Ljava/util/function/BiFunction;" fi) (hfi : fi.isRef = true) (hL : L.length + 3 ≤ 32) :
    MetW Z consts_1 sf0 (⟨"com/example/half_message_commit/halfmessagecommit/protocol/JsonWriter", "string", "(Ljava/lang/String;)V"⟩ : MethodName) prog_24_method_13_code 5 none [] ({ frames := 6, cells := 3, slots := 192, locals := 93 } : Room) #[(.ref jw), (.ref s)] h0 n0 (fun v h sf => v = none ∧ Keep h0 h [o, b] ∧ ∃ u ku cu, Bld Z h o u ku cu (((L ++ [34]) ++ [fs 0]) ++ [34]) ∧ (u = b ∨ h0.size ≤ u) ∧ n0 ≤ u ∧ u ∈ sf) := by
  refine k_body (hEW hw) (f := (fun m => mkF m 0 #[.val (.ref jw), .val (.ref s), .unset, .unset, .unset] [])) pn_22 (fun m => by first | (simp [entryFrame, mkF, argsToLocals, Value.category, maxLocals]; done) | rfl) ?_
  intro Γ T G X
  have ge_o := gm_o.1
  have ge_b := gm_b.1
  have E := BL.1
  have YA := BL.2.1
  have ne_b_o : b ≠ o := BL.ne
  have ne_jw_o : jw ≠ o := ne_exa EJ E (by decide)
  have ne_jw_b : jw ≠ b := ne_exa EJ YA (by decide)
  have KP := Keep.refl h0 [o, b]
  have in_b : b = b ∨ h0.size ≤ b := Or.inl rfl
  have SE := SS.1
  show Go Γ n0 _ T (mkF Γ.m 0 #[.val (.ref jw), .val (.ref s), .unset, .unset, .unset] [])
  refine k_aloadN G X d22_0 (pc' := 1) rfl rfl rfl ?_
  refine k_getF G X (host := "") (Or.inl (w35 hw)) Via.refl JT d22_1 (pc' := 4) rfl (fun T X => ?_)
  refine k_bipush G X d22_4 (pc' := 6) rfl (z := (34 : Int32)) (by decide) ?_
  refine k_callV G X (argsL := [(.int (34 : Int32))]) (rest := []) rfl E (w59 hw) (w60 hw) (nf_sel (w62 hw)) (w62 hw) (w61 hw) (w12 hw) (w63 hw) (by decide) (sb_ac hw o b k cap L cs (34 : Int32) h0 n0 _ ⟨ge_o, (List.mem_append_right [] gm_o.2)⟩ ⟨ge_b, (List.mem_append_right [] gm_b.2)⟩ O BL S_CS hcs (by decide) (by decide) (by first | omega | (simp only [List.length_append, List.length_cons, List.length_nil] <;> omega))) d22_6 pd30 rfl (pc' := 9) rfl rfl (wd := 0) rfl (by decide) (by decide) (by decide) (by decide) (fun T h6 v sf6 X q => ?_)
  obtain ⟨rfl, K6, u6, ku6, cu6, BLn, hu6, ge_u6, mu6⟩ := q
  replace X := W.only X mu6
  have ne_u6_o : u6 ≠ o := BLn.ne
  have in_u6 := in_step in_b hu6 KP.1
  have ne_jw_u6 : jw ≠ u6 := ne_new hu6 ne_jw_b EJ.lt
  have ne_s_u6 : s ≠ u6 := ne_new hu6 ne_s_b SS.lt
  have ne_d_u6 : d ≠ u6 := ne_new hu6 ne_d_b SS.lt'
  replace S_CS := Sta_keepL S_CS K6 (allS (Pln_exa E) (allS (Pln_exa YA) (all0)))
  replace S_FM := Sta_keepL S_FM K6 (allS (Pln_exa E) (allS (Pln_exa YA) (all0)))
  replace S_FI := Sta_keepL S_FI K6 (allS (Pln_exa E) (allS (Pln_exa YA) (all0)))
  replace EJ := EJ.keep K6
  replace JT := JT.keep K6 (nin2 ne_jw_o ne_jw_b)
  replace E := E.keep K6
  replace YA := YA.keep K6
  replace O := O.keep K6 (allS ge_o (allS ge_b (all0)))
  replace KP := KP.trans K6 (allS (Or.inl (List.mem_of_getElem? (i := 0) rfl)) (allS (Or.inl (List.mem_of_getElem? (i := 1) rfl)) (all0)))
  replace SS := SS.keep K6 (nin2 ne_s_o ne_s_b) (nin2 ne_d_o ne_d_b)
  replace SE := SE.keep K6
  have BL : Bld Z _ o u6 ku6 cu6 (L ++ [34]) := BLn
  have YA := BL.2.1
  show Go Γ n0 _ T (mkF Γ.m 9 #[.val (.ref jw), .val (.ref s), .unset, .unset, .unset] [(.ref o)])
  refine k_pop G X d22_9 (pc' := 10) rfl rfl ?_
  refine k_iconst G X d22_10 (pc' := 11) rfl (z := (0 : Int32)) (by decide) ?_
  refine k_istoreN G X d22_11 (pc' := 12) rfl (l' := #[.val (.ref jw), .val (.ref s), .val (.int (0 : Int32)), .unset, .unset]) rfl ?_
  refine k_iconst G X d22_12 (pc' := 13) rfl (z := (0 : Int32)) (by decide) ?_
  refine k_istoreN G X d22_13 (pc' := 14) rfl (l' := #[.val (.ref jw), .val (.ref s), .val (.int (0 : Int32)), .val (.int (0 : Int32)), .unset]) rfl ?_
  refine k_iloadN G X d22_14 (pc' := 15) rfl rfl ?_
  refine k_aloadN G X d22_15 (pc' := 16) rfl rfl rfl ?_
  refine k_callV G X (argsL := []) (rest := [(.int (0 : Int32))]) rfl SE (w121 hw) (w122 hw) (nf_sel (w124 hw)) (w124 hw) (w123 hw) (w29 hw) (w125 hw) (by decide) (str_len hw s d kd 1 (1 : Int32) cs fs h6 n0 _ SS rfl S_CS hcs) d22_16 pd11 rfl (pc' := 19) rfl rfl (wd := 1) rfl (by decide) (by decide) (by decide) (by decide) (fun T h16 v sf16 X q => ?_)
  replace X := W.drop X
  obtain ⟨rfl, e16⟩ := q
  replace X := X.eq e16
  show Go Γ n0 _ T (mkF Γ.m 19 #[.val (.ref jw), .val (.ref s), .val (.int (0 : Int32)), .val (.int (0 : Int32)), .unset] [(.int (1 : Int32)), (.int (0 : Int32))])
  refine k_icmp_ge G X d22_19 (pc' := 77) rfl (by decide) (pc'' := 22) rfl (fun c19 => (absurd c19 (by decide))) (fun c19 => ?_)
  refine k_aloadN G X d22_22 (pc' := 23) rfl rfl rfl ?_
  refine k_iloadN G X d22_23 (pc' := 24) rfl rfl ?_
  refine k_callV G X (argsL := [(.int (0 : Int32))]) (rest := []) rfl SE (w134 hw) (w135 hw) (nf_sel (w137 hw)) (w137 hw) (w136 hw) (w29 hw) (w138 hw) (by decide) (str_at hw s d kd 1 0 (1 : Int32) cs (0 : Int32) fs fm h6 n0 _ SS rfl S_CS hcs rfl (by decide) S_FM hfm) d22_24 pd26 rfl (pc' := 27) rfl rfl (wd := 0) rfl (by decide) (by decide) (by decide) (by decide) (fun T h24 v sf24 X q => ?_)
  replace X := W.drop X
  obtain ⟨r, rfl, hr, e24⟩ := q
  replace X := X.eq e24
  obtain rfl : (97 : Int32) = r := of_toInt (by rw [hr, hf0]; rfl)
  show Go Γ n0 _ T (mkF Γ.m 27 #[.val (.ref jw), .val (.ref s), .val (.int (0 : Int32)), .val (.int (0 : Int32)), .unset] [(.int (97 : Int32))])
  refine k_istore G X d22_27 (pc' := 29) rfl (l' := #[.val (.ref jw), .val (.ref s), .val (.int (0 : Int32)), .val (.int (0 : Int32)), .val (.int (97 : Int32))]) rfl ?_
  refine k_iload G X d22_29 (pc' := 31) rfl rfl ?_
  refine k_bipush G X d22_31 (pc' := 33) rfl (z := (34 : Int32)) (by decide) ?_
  refine k_icmp_eq G X d22_33 (pc' := 50) rfl (by decide) (pc'' := 36) rfl (fun c33 => (absurd c33 (by decide))) (fun c33 => ?_)
  refine k_iload G X d22_36 (pc' := 38) rfl rfl ?_
  refine k_bipush G X d22_38 (pc' := 40) rfl (z := (92 : Int32)) (by decide) ?_
  refine k_icmp_eq G X d22_40 (pc' := 50) rfl (by decide) (pc'' := 43) rfl (fun c40 => (absurd c40 (by decide))) (fun c40 => ?_)
  refine k_iload G X d22_43 (pc' := 45) rfl rfl ?_
  refine k_bipush G X d22_45 (pc' := 47) rfl (z := (32 : Int32)) (by decide) ?_
  refine k_icmp_ge G X d22_47 (pc' := 71) rfl (by decide) (pc'' := 50) rfl (fun c47 => ?_) (fun c47 => (absurd c47 (by decide)))
  refine k_iinc G X d22_71 (pc' := 74) rfl rfl (z := (1 : Int32)) (by decide) (l' := #[.val (.ref jw), .val (.ref s), .val (.int (0 : Int32)), .val (.int (1 : Int32)), .val (.int (97 : Int32))]) rfl ?_
  refine k_goto G X d22_74 (by decide) (pc' := 14) rfl ?_
  refine k_iloadN G X d22_14 (pc' := 15) rfl rfl ?_
  refine k_aloadN G X d22_15 (pc' := 16) rfl rfl rfl ?_
  refine k_callV G X (argsL := []) (rest := [(.int (1 : Int32))]) rfl SE (w121 hw) (w122 hw) (nf_sel (w124 hw)) (w124 hw) (w123 hw) (w29 hw) (w125 hw) (by decide) (str_len hw s d kd 1 (1 : Int32) cs fs h6 n0 _ SS rfl S_CS hcs) d22_16 pd11 rfl (pc' := 19) rfl rfl (wd := 1) rfl (by decide) (by decide) (by decide) (by decide) (fun T h16 v sf16 X q => ?_)
  replace X := W.drop X
  obtain ⟨rfl, e16⟩ := q
  replace X := X.eq e16
  show Go Γ n0 _ T (mkF Γ.m 19 #[.val (.ref jw), .val (.ref s), .val (.int (0 : Int32)), .val (.int (1 : Int32)), .val (.int (97 : Int32))] [(.int (1 : Int32)), (.int (1 : Int32))])
  refine k_icmp_ge G X d22_19 (pc' := 77) rfl (by decide) (pc'' := 22) rfl (fun c19 => ?_) (fun c19 => (absurd c19 (by decide)))
  refine k_aloadN G X d22_77 (pc' := 78) rfl rfl rfl ?_
  refine k_getF G X (host := "") (Or.inl (w35 hw)) Via.refl JT d22_78 (pc' := 81) rfl (fun T X => ?_)
  refine k_aloadN G X d22_81 (pc' := 82) rfl rfl rfl ?_
  refine k_iloadN G X d22_82 (pc' := 83) rfl rfl ?_
  refine k_aloadN G X d22_83 (pc' := 84) rfl rfl rfl ?_
  refine k_callV G X (argsL := []) (rest := [(.int (0 : Int32)), (.ref s), (.ref o)]) rfl SE (w121 hw) (w122 hw) (nf_sel (w124 hw)) (w124 hw) (w123 hw) (w29 hw) (w125 hw) (by decide) (str_len hw s d kd 1 (1 : Int32) cs fs h6 n0 _ SS rfl S_CS hcs) d22_84 pd11 rfl (pc' := 87) rfl rfl (wd := 3) rfl (by decide) (by decide) (by decide) (by decide) (fun T h84 v sf84 X q => ?_)
  replace X := W.drop X
  obtain ⟨rfl, e84⟩ := q
  replace X := X.eq e84
  show Go Γ n0 _ T (mkF Γ.m 87 #[.val (.ref jw), .val (.ref s), .val (.int (0 : Int32)), .val (.int (1 : Int32)), .val (.int (97 : Int32))] [(.int (1 : Int32)), (.int (0 : Int32)), (.ref s), (.ref o)])
  refine k_callV G X (argsL := [(.ref s), (.int (0 : Int32)), (.int (1 : Int32))]) (rest := []) rfl E (w148 hw) (w149 hw) (nf_sel (w151 hw)) (w151 hw) (w150 hw) (w12 hw) (w152 hw) (by decide) (sb_acs hw o u6 ku6 cu6 (L ++ [34]) cs s d kd fs fi h6 n0 _ ⟨ge_o, (List.mem_append_right [u6] gm_o.2)⟩ ⟨ge_u6, (List.mem_of_getElem? (i := 0) rfl)⟩ O BL S_CS hcs SS ne_s_o ne_d_o ne_s_u6 ne_d_u6 S_FI hfi (by first | omega | (simp only [List.length_append, List.length_cons, List.length_nil] <;> omega))) d22_87 pd32 rfl (pc' := 90) rfl rfl (wd := 0) rfl (by decide) (by decide) (by decide) (by decide) (fun T h87 v sf87 X q => ?_)
  obtain ⟨rfl, K87, u87, ku87, cu87, BLn, hu87, ge_u87, mu87⟩ := q
  replace X := W.only X mu87
  have ne_u87_o : u87 ≠ o := BLn.ne
  have in_u87 := in_step in_u6 hu87 KP.1
  have ne_jw_u87 : jw ≠ u87 := ne_new hu87 ne_jw_u6 EJ.lt
  have ne_s_u87 : s ≠ u87 := ne_new hu87 ne_s_u6 SS.lt
  have ne_d_u87 : d ≠ u87 := ne_new hu87 ne_d_u6 SS.lt'
  replace S_CS := Sta_keepL S_CS K87 (allS (Pln_exa E) (allS (Pln_exa YA) (all0)))
  replace S_FM := Sta_keepL S_FM K87 (allS (Pln_exa E) (allS (Pln_exa YA) (all0)))
  replace S_FI := Sta_keepL S_FI K87 (allS (Pln_exa E) (allS (Pln_exa YA) (all0)))
  replace EJ := EJ.keep K87
  replace JT := JT.keep K87 (nin2 ne_jw_o ne_jw_u6)
  replace E := E.keep K87
  replace O := O.keep K87 (allS ge_o (allS ge_u6 (all0)))
  replace KP := KP.trans K87 (allS (Or.inl (List.mem_of_getElem? (i := 0) rfl)) (allS (in_mem in_u6) (all0)))
  replace SS := SS.keep K87 (nin2 ne_s_o ne_s_u6) (nin2 ne_d_o ne_d_u6)
  replace SE := SE.keep K87
  replace YA := YA.keep K87
  have BL : Bld Z _ o u87 ku87 cu87 ((L ++ [34]) ++ [fs 0]) := BLn
  have YA := BL.2.1
  show Go Γ n0 _ T (mkF Γ.m 90 #[.val (.ref jw), .val (.ref s), .val (.int (0 : Int32)), .val (.int (1 : Int32)), .val (.int (97 : Int32))] [(.ref o)])
  refine k_pop G X d22_90 (pc' := 91) rfl rfl ?_
  refine k_aloadN G X d22_91 (pc' := 92) rfl rfl rfl ?_
  refine k_getF G X (host := "") (Or.inl (w35 hw)) Via.refl JT d22_92 (pc' := 95) rfl (fun T X => ?_)
  refine k_bipush G X d22_95 (pc' := 97) rfl (z := (34 : Int32)) (by decide) ?_
  refine k_callV G X (argsL := [(.int (34 : Int32))]) (rest := []) rfl E (w59 hw) (w60 hw) (nf_sel (w62 hw)) (w62 hw) (w61 hw) (w12 hw) (w63 hw) (by decide) (sb_ac hw o u87 ku87 cu87 ((L ++ [34]) ++ [fs 0]) cs (34 : Int32) h87 n0 _ ⟨ge_o, (List.mem_append_right [u87, u6] gm_o.2)⟩ ⟨ge_u87, (List.mem_of_getElem? (i := 0) rfl)⟩ O BL S_CS hcs (by decide) (by decide) (by first | omega | (simp only [List.length_append, List.length_cons, List.length_nil] <;> omega))) d22_97 pd30 rfl (pc' := 100) rfl rfl (wd := 0) rfl (by decide) (by decide) (by decide) (by decide) (fun T h97 v sf97 X q => ?_)
  obtain ⟨rfl, K97, u97, ku97, cu97, BLn, hu97, ge_u97, mu97⟩ := q
  replace X := W.only X mu97
  have ne_u97_o : u97 ≠ o := BLn.ne
  have in_u97 := in_step in_u87 hu97 KP.1
  have ne_jw_u97 : jw ≠ u97 := ne_new hu97 ne_jw_u87 EJ.lt
  have ne_s_u97 : s ≠ u97 := ne_new hu97 ne_s_u87 SS.lt
  have ne_d_u97 : d ≠ u97 := ne_new hu97 ne_d_u87 SS.lt'
  replace S_CS := Sta_keepL S_CS K97 (allS (Pln_exa E) (allS (Pln_exa YA) (all0)))
  replace S_FM := Sta_keepL S_FM K97 (allS (Pln_exa E) (allS (Pln_exa YA) (all0)))
  replace S_FI := Sta_keepL S_FI K97 (allS (Pln_exa E) (allS (Pln_exa YA) (all0)))
  replace EJ := EJ.keep K97
  replace JT := JT.keep K97 (nin2 ne_jw_o ne_jw_u87)
  replace E := E.keep K97
  replace O := O.keep K97 (allS ge_o (allS ge_u87 (all0)))
  replace KP := KP.trans K97 (allS (Or.inl (List.mem_of_getElem? (i := 0) rfl)) (allS (in_mem in_u87) (all0)))
  replace SS := SS.keep K97 (nin2 ne_s_o ne_s_u87) (nin2 ne_d_o ne_d_u87)
  replace SE := SE.keep K97
  replace YA := YA.keep K97
  have BL : Bld Z _ o u97 ku97 cu97 (((L ++ [34]) ++ [fs 0]) ++ [34]) := BLn
  have YA := BL.2.1
  show Go Γ n0 _ T (mkF Γ.m 100 #[.val (.ref jw), .val (.ref s), .val (.int (0 : Int32)), .val (.int (1 : Int32)), .val (.int (97 : Int32))] [(.ref o)])
  refine k_pop G X d22_100 (pc' := 101) rfl rfl ?_
  refine k_retv G X d22_101 rfl ?_ (by decide) (by decide)
  exact ⟨rfl, KP, u97, ku97, cu97, BL, in_u97, ge_u97, (List.mem_of_getElem? (i := 0) rfl)⟩
theorem pn_16 : plainFor (⟨"com/example/half_message_commit/halfmessagecommit/protocol/JsonWriter", "name", "(Ljava/lang/String;)V"⟩ : MethodName) = true := plainFor_of_name (by first | (simp [plainName, overriddenIn]; done) | decide +kernel)
set_option maxRecDepth 65536 in
set_option maxHeartbeats 40000000 in
theorem jname {Z : State} {a0 : Array Value} (hw : HW a0 Z) (jw o b : Addr) (k : ClassId) (cap : Nat) (L : List Int32) (cs : Int32) (fm : Value) (i : Nat) (x : Int32) (s d : Addr) (kd : ClassId) (fs : Nat → Int32) (fi : Value) (h0 : Heap) (n0 : Nat) (sf0 : List Addr) (EJ : Exa Z h0 jw "com/example/half_message_commit/halfmessagecommit/protocol/JsonWriter") (JT : Fld Z h0 jw "com/example/half_message_commit/halfmessagecommit/protocol/JsonWriter" "text" "Ljava/lang/StringBuilder;" (.ref o)) (gm_o : n0 ≤ o ∧ o ∈ sf0) (gm_b : n0 ≤ b ∧ b ∈ sf0) (O : Old Z n0 h0) (BL : Bld Z h0 o b k cap L) (S_CS : Sta Z h0 "java/lang/String" "COMPACT_STRINGS" "Z" (.int cs)) (hcs : cs ≠ 0) (S_FM : Sta Z h0 "jdk/internal/util/Preconditions" "SIOOBE_FORMATTER" "Ljava/util/function/BiFunction;" fm) (hfm : fm.isRef = true) (hLi : L.length = i + 1) (hx : L.getD i 0 = x) (hx0 : 0 ≤ x.toInt) (hx1 : x.toInt ≤ 127) (hxx : x = 123 ∨ x = 91) (SS : Str Z h0 s d kd 1 fs) (hf0 : fs 0 = 97) (ne_s_o : s ≠ o) (ne_d_o : d ≠ o) (ne_s_b : s ≠ b) (ne_d_b : d ≠ b) (S_FI : Sta Z h0 "jdk/internal/util/Preconditions" "IOOBE_FORMATTER" "Ljava/util/function/BiFunction;" fi) (hfi : fi.isRef = true) (hL : L.length + 4 ≤ 32) :
    MetW Z consts_1 sf0 (⟨"com/example/half_message_commit/halfmessagecommit/protocol/JsonWriter", "name", "(Ljava/lang/String;)V"⟩ : MethodName) prog_24_method_11_code 2 none [] ({ frames := 7, cells := 4, slots := 256, locals := 109 } : Room) #[(.ref jw), (.ref s)] h0 n0 (fun v h sf => v = none ∧ Keep h0 h [o, b] ∧ ∃ u ku cu, Bld Z h o u ku cu ((((L ++ [34]) ++ [fs 0]) ++ [34]) ++ [58]) ∧ (u = b ∨ h0.size ≤ u) ∧ n0 ≤ u ∧ u ∈ sf) := by
  refine k_body (hEW hw) (f := (fun m => mkF m 0 #[.val (.ref jw), .val (.ref s)] [])) pn_16 (fun m => by first | (simp [entryFrame, mkF, argsToLocals, Value.category, maxLocals]; done) | rfl) ?_
  intro Γ T G X
  have ge_o := gm_o.1
  have ge_b := gm_b.1
  have E := BL.1
  have YA := BL.2.1
  have ne_b_o : b ≠ o := BL.ne
  have ne_jw_o : jw ≠ o := ne_exa EJ E (by decide)
  have ne_jw_b : jw ≠ b := ne_exa EJ YA (by decide)
  have KP := Keep.refl h0 [o, b]
  have in_b : b = b ∨ h0.size ≤ b := Or.inl rfl
  have SE := SS.1
  show Go Γ n0 _ T (mkF Γ.m 0 #[.val (.ref jw), .val (.ref s)] [])
  refine k_aloadN G X d16_0 (pc' := 1) rfl rfl rfl ?_
  refine k_callP G X (argsL := []) (rest := []) rfl EJ (w43 hw) (w44 hw) (selP (w1 hw) (w45 hw) (w44 hw) (by decide)) (w45 hw) (w2 hw) (w46 hw) (by decide) (sepN hw jw o b k cap L cs fm i x h0 n0 _ EJ JT ⟨ge_o, (List.mem_append_right [] gm_o.2)⟩ ⟨ge_b, (List.mem_append_right [] gm_b.2)⟩ O BL S_CS hcs S_FM hfm hLi hx hx0 hx1 hxx) d16_1 pd31 rfl (pc' := 4) rfl rfl (wd := 0) rfl (by decide) (by decide) (by decide) (by decide) (fun T h1 v sf1 X q => ?_)
  replace X := W.drop X
  obtain ⟨rfl, e1⟩ := q
  replace X := X.eq e1
  show Go Γ n0 _ T (mkF Γ.m 4 #[.val (.ref jw), .val (.ref s)] [])
  refine k_aloadN G X d16_4 (pc' := 5) rfl rfl rfl ?_
  refine k_aloadN G X d16_5 (pc' := 6) rfl rfl rfl ?_
  refine k_callP G X (argsL := [(.ref s)]) (rest := []) rfl EJ (w117 hw) (w118 hw) (selP (w1 hw) (w119 hw) (w118 hw) (by decide)) (w119 hw) (w2 hw) (w120 hw) (by decide) (jstr hw jw o b k cap L cs fm s d kd fs fi h0 n0 _ EJ JT ⟨ge_o, (List.mem_append_right [] gm_o.2)⟩ ⟨ge_b, (List.mem_append_right [] gm_b.2)⟩ O BL S_CS hcs S_FM hfm SS hf0 ne_s_o ne_d_o ne_s_b ne_d_b S_FI hfi (by first | omega | (simp only [List.length_append, List.length_cons, List.length_nil] <;> omega))) d16_6 pd21 rfl (pc' := 9) rfl rfl (wd := 0) rfl (by decide) (by decide) (by decide) (by decide) (fun T h6 v sf6 X q => ?_)
  obtain ⟨rfl, K6, u6, ku6, cu6, BLn, hu6, ge_u6, mu6⟩ := q
  replace X := W.only X mu6
  have ne_u6_o : u6 ≠ o := BLn.ne
  have in_u6 := in_step in_b hu6 KP.1
  have ne_jw_u6 : jw ≠ u6 := ne_new hu6 ne_jw_b EJ.lt
  have ne_s_u6 : s ≠ u6 := ne_new hu6 ne_s_b SS.lt
  have ne_d_u6 : d ≠ u6 := ne_new hu6 ne_d_b SS.lt'
  replace S_CS := Sta_keepL S_CS K6 (allS (Pln_exa E) (allS (Pln_exa YA) (all0)))
  replace S_FM := Sta_keepL S_FM K6 (allS (Pln_exa E) (allS (Pln_exa YA) (all0)))
  replace S_FI := Sta_keepL S_FI K6 (allS (Pln_exa E) (allS (Pln_exa YA) (all0)))
  replace EJ := EJ.keep K6
  replace JT := JT.keep K6 (nin2 ne_jw_o ne_jw_b)
  replace E := E.keep K6
  replace YA := YA.keep K6
  replace O := O.keep K6 (allS ge_o (allS ge_b (all0)))
  replace KP := KP.trans K6 (allS (Or.inl (List.mem_of_getElem? (i := 0) rfl)) (allS (Or.inl (List.mem_of_getElem? (i := 1) rfl)) (all0)))
  replace SS := SS.keep K6 (nin2 ne_s_o ne_s_b) (nin2 ne_d_o ne_d_b)
  replace SE := SE.keep K6
  have BL : Bld Z _ o u6 ku6 cu6 (((L ++ [34]) ++ [fs 0]) ++ [34]) := BLn
  have YA := BL.2.1
  show Go Γ n0 _ T (mkF Γ.m 9 #[.val (.ref jw), .val (.ref s)] [])
  refine k_aloadN G X d16_9 (pc' := 10) rfl rfl rfl ?_
  refine k_getF G X (host := "") (Or.inl (w35 hw)) Via.refl JT d16_10 (pc' := 13) rfl (fun T X => ?_)
  refine k_bipush G X d16_13 (pc' := 15) rfl (z := (58 : Int32)) (by decide) ?_
  refine k_callV G X (argsL := [(.int (58 : Int32))]) (rest := []) rfl E (w59 hw) (w60 hw) (nf_sel (w62 hw)) (w62 hw) (w61 hw) (w12 hw) (w63 hw) (by decide) (sb_ac hw o u6 ku6 cu6 (((L ++ [34]) ++ [fs 0]) ++ [34]) cs (58 : Int32) h6 n0 _ ⟨ge_o, (List.mem_append_right [u6] gm_o.2)⟩ ⟨ge_u6, (List.mem_of_getElem? (i := 0) rfl)⟩ O BL S_CS hcs (by decide) (by decide) (by first | omega | (simp only [List.length_append, List.length_cons, List.length_nil] <;> omega))) d16_15 pd30 rfl (pc' := 18) rfl rfl (wd := 0) rfl (by decide) (by decide) (by decide) (by decide) (fun T h15 v sf15 X q => ?_)
  obtain ⟨rfl, K15, u15, ku15, cu15, BLn, hu15, ge_u15, mu15⟩ := q
  replace X := W.only X mu15
  have ne_u15_o : u15 ≠ o := BLn.ne
  have in_u15 := in_step in_u6 hu15 KP.1
  have ne_jw_u15 : jw ≠ u15 := ne_new hu15 ne_jw_u6 EJ.lt
  have ne_s_u15 : s ≠ u15 := ne_new hu15 ne_s_u6 SS.lt
  have ne_d_u15 : d ≠ u15 := ne_new hu15 ne_d_u6 SS.lt'
  replace S_CS := Sta_keepL S_CS K15 (allS (Pln_exa E) (allS (Pln_exa YA) (all0)))
  replace S_FM := Sta_keepL S_FM K15 (allS (Pln_exa E) (allS (Pln_exa YA) (all0)))
  replace S_FI := Sta_keepL S_FI K15 (allS (Pln_exa E) (allS (Pln_exa YA) (all0)))
  replace EJ := EJ.keep K15
  replace JT := JT.keep K15 (nin2 ne_jw_o ne_jw_u6)
  replace E := E.keep K15
  replace O := O.keep K15 (allS ge_o (allS ge_u6 (all0)))
  replace KP := KP.trans K15 (allS (Or.inl (List.mem_of_getElem? (i := 0) rfl)) (allS (in_mem in_u6) (all0)))
  replace SS := SS.keep K15 (nin2 ne_s_o ne_s_u6) (nin2 ne_d_o ne_d_u6)
  replace SE := SE.keep K15
  replace YA := YA.keep K15
  have BL : Bld Z _ o u15 ku15 cu15 ((((L ++ [34]) ++ [fs 0]) ++ [34]) ++ [58]) := BLn
  have YA := BL.2.1
  show Go Γ n0 _ T (mkF Γ.m 18 #[.val (.ref jw), .val (.ref s)] [(.ref o)])
  refine k_pop G X d16_18 (pc' := 19) rfl rfl ?_
  refine k_retv G X d16_19 rfl ?_ (by decide) (by decide)
  exact ⟨rfl, KP, u15, ku15, cu15, BL, in_u15, ge_u15, (List.mem_of_getElem? (i := 0) rfl)⟩
theorem pn_15 : plainFor (⟨"com/example/half_message_commit/halfmessagecommit/protocol/JsonWriter", "beginArray", "(Ljava/lang/String;)V"⟩ : MethodName) = true := plainFor_of_name (by first | (simp [plainName, overriddenIn]; done) | decide +kernel)
set_option maxRecDepth 65536 in
set_option maxHeartbeats 40000000 in
theorem bar {Z : State} {a0 : Array Value} (hw : HW a0 Z) (jw o b : Addr) (k : ClassId) (cap : Nat) (L : List Int32) (cs : Int32) (fm : Value) (i : Nat) (x : Int32) (s d : Addr) (kd : ClassId) (fs : Nat → Int32) (fi : Value) (h0 : Heap) (n0 : Nat) (sf0 : List Addr) (EJ : Exa Z h0 jw "com/example/half_message_commit/halfmessagecommit/protocol/JsonWriter") (JT : Fld Z h0 jw "com/example/half_message_commit/halfmessagecommit/protocol/JsonWriter" "text" "Ljava/lang/StringBuilder;" (.ref o)) (gm_o : n0 ≤ o ∧ o ∈ sf0) (gm_b : n0 ≤ b ∧ b ∈ sf0) (O : Old Z n0 h0) (BL : Bld Z h0 o b k cap L) (S_CS : Sta Z h0 "java/lang/String" "COMPACT_STRINGS" "Z" (.int cs)) (hcs : cs ≠ 0) (S_FM : Sta Z h0 "jdk/internal/util/Preconditions" "SIOOBE_FORMATTER" "Ljava/util/function/BiFunction;" fm) (hfm : fm.isRef = true) (hLi : L.length = i + 1) (hx : L.getD i 0 = x) (hx0 : 0 ≤ x.toInt) (hx1 : x.toInt ≤ 127) (hxx : x = 123 ∨ x = 91) (SS : Str Z h0 s d kd 1 fs) (hf0 : fs 0 = 97) (ne_s_o : s ≠ o) (ne_d_o : d ≠ o) (ne_s_b : s ≠ b) (ne_d_b : d ≠ b) (S_FI : Sta Z h0 "jdk/internal/util/Preconditions" "IOOBE_FORMATTER" "Ljava/util/function/BiFunction;" fi) (hfi : fi.isRef = true) (hL : L.length + 5 ≤ 32) :
    MetW Z consts_1 sf0 (⟨"com/example/half_message_commit/halfmessagecommit/protocol/JsonWriter", "beginArray", "(Ljava/lang/String;)V"⟩ : MethodName) prog_24_method_5_code 2 none [] ({ frames := 8, cells := 5, slots := 320, locals := 122 } : Room) #[(.ref jw), (.ref s)] h0 n0 (fun v h sf => v = none ∧ Keep h0 h [o, b] ∧ ∃ u ku cu, Bld Z h o u ku cu (((((L ++ [34]) ++ [fs 0]) ++ [34]) ++ [58]) ++ [91]) ∧ (u = b ∨ h0.size ≤ u) ∧ n0 ≤ u ∧ u ∈ sf) := by
  refine k_body (hEW hw) (f := (fun m => mkF m 0 #[.val (.ref jw), .val (.ref s)] [])) pn_15 (fun m => by first | (simp [entryFrame, mkF, argsToLocals, Value.category, maxLocals]; done) | rfl) ?_
  intro Γ T G X
  have ge_o := gm_o.1
  have ge_b := gm_b.1
  have E := BL.1
  have YA := BL.2.1
  have ne_b_o : b ≠ o := BL.ne
  have ne_jw_o : jw ≠ o := ne_exa EJ E (by decide)
  have ne_jw_b : jw ≠ b := ne_exa EJ YA (by decide)
  have KP := Keep.refl h0 [o, b]
  have in_b : b = b ∨ h0.size ≤ b := Or.inl rfl
  have SE := SS.1
  show Go Γ n0 _ T (mkF Γ.m 0 #[.val (.ref jw), .val (.ref s)] [])
  refine k_aloadN G X d15_0 (pc' := 1) rfl rfl rfl ?_
  refine k_aloadN G X d15_1 (pc' := 2) rfl rfl rfl ?_
  refine k_callP G X (argsL := [(.ref s)]) (rest := []) rfl EJ (w93 hw) (w94 hw) (selP (w1 hw) (w95 hw) (w94 hw) (by decide)) (w95 hw) (w2 hw) (w96 hw) (by decide) (jname hw jw o b k cap L cs fm i x s d kd fs fi h0 n0 _ EJ JT ⟨ge_o, (List.mem_append_right [] gm_o.2)⟩ ⟨ge_b, (List.mem_append_right [] gm_b.2)⟩ O BL S_CS hcs S_FM hfm hLi hx hx0 hx1 hxx SS hf0 ne_s_o ne_d_o ne_s_b ne_d_b S_FI hfi (by omega)) d15_2 pd21 rfl (pc' := 5) rfl rfl (wd := 0) rfl (by decide) (by decide) (by decide) (by decide) (fun T h2 v sf2 X q => ?_)
  obtain ⟨rfl, K2, u2, ku2, cu2, BLn, hu2, ge_u2, mu2⟩ := q
  replace X := W.only X mu2
  have ne_u2_o : u2 ≠ o := BLn.ne
  have in_u2 := in_step in_b hu2 KP.1
  have ne_jw_u2 : jw ≠ u2 := ne_new hu2 ne_jw_b EJ.lt
  have ne_s_u2 : s ≠ u2 := ne_new hu2 ne_s_b SS.lt
  have ne_d_u2 : d ≠ u2 := ne_new hu2 ne_d_b SS.lt'
  replace S_CS := Sta_keepL S_CS K2 (allS (Pln_exa E) (allS (Pln_exa YA) (all0)))
  replace S_FM := Sta_keepL S_FM K2 (allS (Pln_exa E) (allS (Pln_exa YA) (all0)))
  replace S_FI := Sta_keepL S_FI K2 (allS (Pln_exa E) (allS (Pln_exa YA) (all0)))
  replace EJ := EJ.keep K2
  replace JT := JT.keep K2 (nin2 ne_jw_o ne_jw_b)
  replace E := E.keep K2
  replace YA := YA.keep K2
  replace O := O.keep K2 (allS ge_o (allS ge_b (all0)))
  replace KP := KP.trans K2 (allS (Or.inl (List.mem_of_getElem? (i := 0) rfl)) (allS (Or.inl (List.mem_of_getElem? (i := 1) rfl)) (all0)))
  replace SS := SS.keep K2 (nin2 ne_s_o ne_s_b) (nin2 ne_d_o ne_d_b)
  replace SE := SE.keep K2
  have BL : Bld Z _ o u2 ku2 cu2 ((((L ++ [34]) ++ [fs 0]) ++ [34]) ++ [58]) := BLn
  have YA := BL.2.1
  show Go Γ n0 _ T (mkF Γ.m 5 #[.val (.ref jw), .val (.ref s)] [])
  refine k_aloadN G X d15_5 (pc' := 6) rfl rfl rfl ?_
  refine k_getF G X (host := "") (Or.inl (w35 hw)) Via.refl JT d15_6 (pc' := 9) rfl (fun T X => ?_)
  refine k_bipush G X d15_9 (pc' := 11) rfl (z := (91 : Int32)) (by decide) ?_
  refine k_callV G X (argsL := [(.int (91 : Int32))]) (rest := []) rfl E (w59 hw) (w60 hw) (nf_sel (w62 hw)) (w62 hw) (w61 hw) (w12 hw) (w63 hw) (by decide) (sb_ac hw o u2 ku2 cu2 ((((L ++ [34]) ++ [fs 0]) ++ [34]) ++ [58]) cs (91 : Int32) h2 n0 _ ⟨ge_o, (List.mem_append_right [u2] gm_o.2)⟩ ⟨ge_u2, (List.mem_of_getElem? (i := 0) rfl)⟩ O BL S_CS hcs (by decide) (by decide) (by first | omega | (simp only [List.length_append, List.length_cons, List.length_nil] <;> omega))) d15_11 pd30 rfl (pc' := 14) rfl rfl (wd := 0) rfl (by decide) (by decide) (by decide) (by decide) (fun T h11 v sf11 X q => ?_)
  obtain ⟨rfl, K11, u11, ku11, cu11, BLn, hu11, ge_u11, mu11⟩ := q
  replace X := W.only X mu11
  have ne_u11_o : u11 ≠ o := BLn.ne
  have in_u11 := in_step in_u2 hu11 KP.1
  have ne_jw_u11 : jw ≠ u11 := ne_new hu11 ne_jw_u2 EJ.lt
  have ne_s_u11 : s ≠ u11 := ne_new hu11 ne_s_u2 SS.lt
  have ne_d_u11 : d ≠ u11 := ne_new hu11 ne_d_u2 SS.lt'
  replace S_CS := Sta_keepL S_CS K11 (allS (Pln_exa E) (allS (Pln_exa YA) (all0)))
  replace S_FM := Sta_keepL S_FM K11 (allS (Pln_exa E) (allS (Pln_exa YA) (all0)))
  replace S_FI := Sta_keepL S_FI K11 (allS (Pln_exa E) (allS (Pln_exa YA) (all0)))
  replace EJ := EJ.keep K11
  replace JT := JT.keep K11 (nin2 ne_jw_o ne_jw_u2)
  replace E := E.keep K11
  replace O := O.keep K11 (allS ge_o (allS ge_u2 (all0)))
  replace KP := KP.trans K11 (allS (Or.inl (List.mem_of_getElem? (i := 0) rfl)) (allS (in_mem in_u2) (all0)))
  replace SS := SS.keep K11 (nin2 ne_s_o ne_s_u2) (nin2 ne_d_o ne_d_u2)
  replace SE := SE.keep K11
  replace YA := YA.keep K11
  have BL : Bld Z _ o u11 ku11 cu11 (((((L ++ [34]) ++ [fs 0]) ++ [34]) ++ [58]) ++ [91]) := BLn
  have YA := BL.2.1
  show Go Γ n0 _ T (mkF Γ.m 14 #[.val (.ref jw), .val (.ref s)] [(.ref o)])
  refine k_pop G X d15_14 (pc' := 15) rfl rfl ?_
  refine k_retv G X d15_15 rfl ?_ (by decide) (by decide)
  exact ⟨rfl, KP, u11, ku11, cu11, BL, in_u11, ge_u11, (List.mem_of_getElem? (i := 0) rfl)⟩
theorem pn_54 : plainFor (⟨"com/example/half_message_commit/halfmessagecommit/protocol/JsonWriter", "member", "(Ljava/lang/String;Z)V"⟩ : MethodName) = true := plainFor_of_name (by first | (simp [plainName, overriddenIn]; done) | decide +kernel)
set_option maxRecDepth 65536 in
set_option maxHeartbeats 40000000 in
theorem mz1 {Z : State} {a0 : Array Value} (hw : HW a0 Z) (jw o b : Addr) (k : ClassId) (cap : Nat) (L : List Int32) (cs : Int32) (fm : Value) (i : Nat) (x : Int32) (s d : Addr) (kd : ClassId) (fs : Nat → Int32) (fi : Value) (h0 : Heap) (n0 : Nat) (sf0 : List Addr) (EJ : Exa Z h0 jw "com/example/half_message_commit/halfmessagecommit/protocol/JsonWriter") (JT : Fld Z h0 jw "com/example/half_message_commit/halfmessagecommit/protocol/JsonWriter" "text" "Ljava/lang/StringBuilder;" (.ref o)) (gm_o : n0 ≤ o ∧ o ∈ sf0) (gm_b : n0 ≤ b ∧ b ∈ sf0) (O : Old Z n0 h0) (BL : Bld Z h0 o b k cap L) (S_CS : Sta Z h0 "java/lang/String" "COMPACT_STRINGS" "Z" (.int cs)) (hcs : cs ≠ 0) (S_FM : Sta Z h0 "jdk/internal/util/Preconditions" "SIOOBE_FORMATTER" "Ljava/util/function/BiFunction;" fm) (hfm : fm.isRef = true) (hLi : L.length = i + 1) (hx : L.getD i 0 = x) (hx0 : 0 ≤ x.toInt) (hx1 : x.toInt ≤ 127) (hxx : x = 123 ∨ x = 91) (SS : Str Z h0 s d kd 1 fs) (hf0 : fs 0 = 97) (ne_s_o : s ≠ o) (ne_d_o : d ≠ o) (ne_s_b : s ≠ b) (ne_d_b : d ≠ b) (S_FI : Sta Z h0 "jdk/internal/util/Preconditions" "IOOBE_FORMATTER" "Ljava/util/function/BiFunction;" fi) (hfi : fi.isRef = true) (hL : L.length + 9 ≤ 32) :
    MetW Z consts_1 sf0 (⟨"com/example/half_message_commit/halfmessagecommit/protocol/JsonWriter", "member", "(Ljava/lang/String;Z)V"⟩ : MethodName) prog_24_method_9_code 3 none [] ({ frames := 8, cells := 5, slots := 320, locals := 122 } : Room) #[(.ref jw), (.ref s), (.int (1 : Int32))] h0 n0 (fun v h sf => v = none ∧ Keep h0 h [o, b] ∧ ∃ u ku cu, Bld Z h o u ku cu (((((L ++ [34]) ++ [fs 0]) ++ [34]) ++ [58]) ++ [116, 114, 117, 101]) ∧ (u = b ∨ h0.size ≤ u) ∧ n0 ≤ u ∧ u ∈ sf) := by
  refine k_body (hEW hw) (f := (fun m => mkF m 0 #[.val (.ref jw), .val (.ref s), .val (.int (1 : Int32))] [])) pn_54 (fun m => by first | (simp [entryFrame, mkF, argsToLocals, Value.category, maxLocals]; done) | rfl) ?_
  intro Γ T G X
  have ge_o := gm_o.1
  have ge_b := gm_b.1
  have E := BL.1
  have YA := BL.2.1
  have ne_b_o : b ≠ o := BL.ne
  have ne_jw_o : jw ≠ o := ne_exa EJ E (by decide)
  have ne_jw_b : jw ≠ b := ne_exa EJ YA (by decide)
  have KP := Keep.refl h0 [o, b]
  have in_b : b = b ∨ h0.size ≤ b := Or.inl rfl
  have SE := SS.1
  show Go Γ n0 _ T (mkF Γ.m 0 #[.val (.ref jw), .val (.ref s), .val (.int (1 : Int32))] [])
  refine k_aloadN G X d54_0 (pc' := 1) rfl rfl rfl ?_
  refine k_aloadN G X d54_1 (pc' := 2) rfl rfl rfl ?_
  refine k_callP G X (argsL := [(.ref s)]) (rest := []) rfl EJ (w93 hw) (w94 hw) (selP (w1 hw) (w95 hw) (w94 hw) (by decide)) (w95 hw) (w2 hw) (w96 hw) (by decide) (jname hw jw o b k cap L cs fm i x s d kd fs fi h0 n0 _ EJ JT ⟨ge_o, (List.mem_append_right [] gm_o.2)⟩ ⟨ge_b, (List.mem_append_right [] gm_b.2)⟩ O BL S_CS hcs S_FM hfm hLi hx hx0 hx1 hxx SS hf0 ne_s_o ne_d_o ne_s_b ne_d_b S_FI hfi (by omega)) d54_2 pd21 rfl (pc' := 5) rfl rfl (wd := 0) rfl (by decide) (by decide) (by decide) (by decide) (fun T h2 v sf2 X q => ?_)
  obtain ⟨rfl, K2, u2, ku2, cu2, BLn, hu2, ge_u2, mu2⟩ := q
  replace X := W.only X mu2
  have ne_u2_o : u2 ≠ o := BLn.ne
  have in_u2 := in_step in_b hu2 KP.1
  have ne_jw_u2 : jw ≠ u2 := ne_new hu2 ne_jw_b EJ.lt
  have ne_s_u2 : s ≠ u2 := ne_new hu2 ne_s_b SS.lt
  have ne_d_u2 : d ≠ u2 := ne_new hu2 ne_d_b SS.lt'
  replace S_CS := Sta_keepL S_CS K2 (allS (Pln_exa E) (allS (Pln_exa YA) (all0)))
  replace S_FM := Sta_keepL S_FM K2 (allS (Pln_exa E) (allS (Pln_exa YA) (all0)))
  replace S_FI := Sta_keepL S_FI K2 (allS (Pln_exa E) (allS (Pln_exa YA) (all0)))
  replace EJ := EJ.keep K2
  replace JT := JT.keep K2 (nin2 ne_jw_o ne_jw_b)
  replace E := E.keep K2
  replace YA := YA.keep K2
  replace O := O.keep K2 (allS ge_o (allS ge_b (all0)))
  replace KP := KP.trans K2 (allS (Or.inl (List.mem_of_getElem? (i := 0) rfl)) (allS (Or.inl (List.mem_of_getElem? (i := 1) rfl)) (all0)))
  replace SS := SS.keep K2 (nin2 ne_s_o ne_s_b) (nin2 ne_d_o ne_d_b)
  replace SE := SE.keep K2
  have BL : Bld Z _ o u2 ku2 cu2 ((((L ++ [34]) ++ [fs 0]) ++ [34]) ++ [58]) := BLn
  have YA := BL.2.1
  show Go Γ n0 _ T (mkF Γ.m 5 #[.val (.ref jw), .val (.ref s), .val (.int (1 : Int32))] [])
  refine k_aloadN G X d54_5 (pc' := 6) rfl rfl rfl ?_
  refine k_getF G X (host := "") (Or.inl (w35 hw)) Via.refl JT d54_6 (pc' := 9) rfl (fun T X => ?_)
  refine k_iloadN G X d54_9 (pc' := 10) rfl rfl ?_
  refine k_callV G X (argsL := [(.int (1 : Int32))]) (rest := []) rfl E (w298 hw) (w299 hw) (nf_sel (w301 hw)) (w301 hw) (w300 hw) (w12 hw) (w302 hw) (by decide) (sb_az1 hw o u2 ku2 cu2 ((((L ++ [34]) ++ [fs 0]) ++ [34]) ++ [58]) cs  h2 n0 _ ⟨ge_o, (List.mem_append_right [u2] gm_o.2)⟩ ⟨ge_u2, (List.mem_of_getElem? (i := 0) rfl)⟩ O BL S_CS hcs (by first | omega | (simp only [List.length_append, List.length_cons, List.length_nil] <;> omega))) d54_10 pd33 rfl (pc' := 13) rfl rfl (wd := 0) rfl (by decide) (by decide) (by decide) (by decide) (fun T h10 v sf10 X q => ?_)
  obtain ⟨rfl, K10, u10, ku10, cu10, BLn, hu10, ge_u10, mu10⟩ := q
  replace X := W.only X mu10
  have ne_u10_o : u10 ≠ o := BLn.ne
  have in_u10 := in_step in_u2 hu10 KP.1
  have ne_jw_u10 : jw ≠ u10 := ne_new hu10 ne_jw_u2 EJ.lt
  have ne_s_u10 : s ≠ u10 := ne_new hu10 ne_s_u2 SS.lt
  have ne_d_u10 : d ≠ u10 := ne_new hu10 ne_d_u2 SS.lt'
  replace S_CS := Sta_keepL S_CS K10 (allS (Pln_exa E) (allS (Pln_exa YA) (all0)))
  replace S_FM := Sta_keepL S_FM K10 (allS (Pln_exa E) (allS (Pln_exa YA) (all0)))
  replace S_FI := Sta_keepL S_FI K10 (allS (Pln_exa E) (allS (Pln_exa YA) (all0)))
  replace EJ := EJ.keep K10
  replace JT := JT.keep K10 (nin2 ne_jw_o ne_jw_u2)
  replace E := E.keep K10
  replace O := O.keep K10 (allS ge_o (allS ge_u2 (all0)))
  replace KP := KP.trans K10 (allS (Or.inl (List.mem_of_getElem? (i := 0) rfl)) (allS (in_mem in_u2) (all0)))
  replace SS := SS.keep K10 (nin2 ne_s_o ne_s_u2) (nin2 ne_d_o ne_d_u2)
  replace SE := SE.keep K10
  replace YA := YA.keep K10
  have BL : Bld Z _ o u10 ku10 cu10 (((((L ++ [34]) ++ [fs 0]) ++ [34]) ++ [58]) ++ [116, 114, 117, 101]) := BLn
  have YA := BL.2.1
  show Go Γ n0 _ T (mkF Γ.m 13 #[.val (.ref jw), .val (.ref s), .val (.int (1 : Int32))] [(.ref o)])
  refine k_pop G X d54_13 (pc' := 14) rfl rfl ?_
  refine k_retv G X d54_14 rfl ?_ (by decide) (by decide)
  exact ⟨rfl, KP, u10, ku10, cu10, BL, in_u10, ge_u10, (List.mem_of_getElem? (i := 0) rfl)⟩
set_option maxRecDepth 65536 in
set_option maxHeartbeats 40000000 in
theorem mz0 {Z : State} {a0 : Array Value} (hw : HW a0 Z) (jw o b : Addr) (k : ClassId) (cap : Nat) (L : List Int32) (cs : Int32) (fm : Value) (i : Nat) (x : Int32) (s d : Addr) (kd : ClassId) (fs : Nat → Int32) (fi : Value) (h0 : Heap) (n0 : Nat) (sf0 : List Addr) (EJ : Exa Z h0 jw "com/example/half_message_commit/halfmessagecommit/protocol/JsonWriter") (JT : Fld Z h0 jw "com/example/half_message_commit/halfmessagecommit/protocol/JsonWriter" "text" "Ljava/lang/StringBuilder;" (.ref o)) (gm_o : n0 ≤ o ∧ o ∈ sf0) (gm_b : n0 ≤ b ∧ b ∈ sf0) (O : Old Z n0 h0) (BL : Bld Z h0 o b k cap L) (S_CS : Sta Z h0 "java/lang/String" "COMPACT_STRINGS" "Z" (.int cs)) (hcs : cs ≠ 0) (S_FM : Sta Z h0 "jdk/internal/util/Preconditions" "SIOOBE_FORMATTER" "Ljava/util/function/BiFunction;" fm) (hfm : fm.isRef = true) (hLi : L.length = i + 1) (hx : L.getD i 0 = x) (hx0 : 0 ≤ x.toInt) (hx1 : x.toInt ≤ 127) (hxx : x = 123 ∨ x = 91) (SS : Str Z h0 s d kd 1 fs) (hf0 : fs 0 = 97) (ne_s_o : s ≠ o) (ne_d_o : d ≠ o) (ne_s_b : s ≠ b) (ne_d_b : d ≠ b) (S_FI : Sta Z h0 "jdk/internal/util/Preconditions" "IOOBE_FORMATTER" "Ljava/util/function/BiFunction;" fi) (hfi : fi.isRef = true) (hL : L.length + 9 ≤ 32) :
    MetW Z consts_1 sf0 (⟨"com/example/half_message_commit/halfmessagecommit/protocol/JsonWriter", "member", "(Ljava/lang/String;Z)V"⟩ : MethodName) prog_24_method_9_code 3 none [] ({ frames := 8, cells := 5, slots := 320, locals := 122 } : Room) #[(.ref jw), (.ref s), (.int (0 : Int32))] h0 n0 (fun v h sf => v = none ∧ Keep h0 h [o, b] ∧ ∃ u ku cu, Bld Z h o u ku cu (((((L ++ [34]) ++ [fs 0]) ++ [34]) ++ [58]) ++ [102, 97, 108, 115, 101]) ∧ (u = b ∨ h0.size ≤ u) ∧ n0 ≤ u ∧ u ∈ sf) := by
  refine k_body (hEW hw) (f := (fun m => mkF m 0 #[.val (.ref jw), .val (.ref s), .val (.int (0 : Int32))] [])) pn_54 (fun m => by first | (simp [entryFrame, mkF, argsToLocals, Value.category, maxLocals]; done) | rfl) ?_
  intro Γ T G X
  have ge_o := gm_o.1
  have ge_b := gm_b.1
  have E := BL.1
  have YA := BL.2.1
  have ne_b_o : b ≠ o := BL.ne
  have ne_jw_o : jw ≠ o := ne_exa EJ E (by decide)
  have ne_jw_b : jw ≠ b := ne_exa EJ YA (by decide)
  have KP := Keep.refl h0 [o, b]
  have in_b : b = b ∨ h0.size ≤ b := Or.inl rfl
  have SE := SS.1
  show Go Γ n0 _ T (mkF Γ.m 0 #[.val (.ref jw), .val (.ref s), .val (.int (0 : Int32))] [])
  refine k_aloadN G X d54_0 (pc' := 1) rfl rfl rfl ?_
  refine k_aloadN G X d54_1 (pc' := 2) rfl rfl rfl ?_
  refine k_callP G X (argsL := [(.ref s)]) (rest := []) rfl EJ (w93 hw) (w94 hw) (selP (w1 hw) (w95 hw) (w94 hw) (by decide)) (w95 hw) (w2 hw) (w96 hw) (by decide) (jname hw jw o b k cap L cs fm i x s d kd fs fi h0 n0 _ EJ JT ⟨ge_o, (List.mem_append_right [] gm_o.2)⟩ ⟨ge_b, (List.mem_append_right [] gm_b.2)⟩ O BL S_CS hcs S_FM hfm hLi hx hx0 hx1 hxx SS hf0 ne_s_o ne_d_o ne_s_b ne_d_b S_FI hfi (by omega)) d54_2 pd21 rfl (pc' := 5) rfl rfl (wd := 0) rfl (by decide) (by decide) (by decide) (by decide) (fun T h2 v sf2 X q => ?_)
  obtain ⟨rfl, K2, u2, ku2, cu2, BLn, hu2, ge_u2, mu2⟩ := q
  replace X := W.only X mu2
  have ne_u2_o : u2 ≠ o := BLn.ne
  have in_u2 := in_step in_b hu2 KP.1
  have ne_jw_u2 : jw ≠ u2 := ne_new hu2 ne_jw_b EJ.lt
  have ne_s_u2 : s ≠ u2 := ne_new hu2 ne_s_b SS.lt
  have ne_d_u2 : d ≠ u2 := ne_new hu2 ne_d_b SS.lt'
  replace S_CS := Sta_keepL S_CS K2 (allS (Pln_exa E) (allS (Pln_exa YA) (all0)))
  replace S_FM := Sta_keepL S_FM K2 (allS (Pln_exa E) (allS (Pln_exa YA) (all0)))
  replace S_FI := Sta_keepL S_FI K2 (allS (Pln_exa E) (allS (Pln_exa YA) (all0)))
  replace EJ := EJ.keep K2
  replace JT := JT.keep K2 (nin2 ne_jw_o ne_jw_b)
  replace E := E.keep K2
  replace YA := YA.keep K2
  replace O := O.keep K2 (allS ge_o (allS ge_b (all0)))
  replace KP := KP.trans K2 (allS (Or.inl (List.mem_of_getElem? (i := 0) rfl)) (allS (Or.inl (List.mem_of_getElem? (i := 1) rfl)) (all0)))
  replace SS := SS.keep K2 (nin2 ne_s_o ne_s_b) (nin2 ne_d_o ne_d_b)
  replace SE := SE.keep K2
  have BL : Bld Z _ o u2 ku2 cu2 ((((L ++ [34]) ++ [fs 0]) ++ [34]) ++ [58]) := BLn
  have YA := BL.2.1
  show Go Γ n0 _ T (mkF Γ.m 5 #[.val (.ref jw), .val (.ref s), .val (.int (0 : Int32))] [])
  refine k_aloadN G X d54_5 (pc' := 6) rfl rfl rfl ?_
  refine k_getF G X (host := "") (Or.inl (w35 hw)) Via.refl JT d54_6 (pc' := 9) rfl (fun T X => ?_)
  refine k_iloadN G X d54_9 (pc' := 10) rfl rfl ?_
  refine k_callV G X (argsL := [(.int (0 : Int32))]) (rest := []) rfl E (w298 hw) (w299 hw) (nf_sel (w301 hw)) (w301 hw) (w300 hw) (w12 hw) (w302 hw) (by decide) (sb_az0 hw o u2 ku2 cu2 ((((L ++ [34]) ++ [fs 0]) ++ [34]) ++ [58]) cs  h2 n0 _ ⟨ge_o, (List.mem_append_right [u2] gm_o.2)⟩ ⟨ge_u2, (List.mem_of_getElem? (i := 0) rfl)⟩ O BL S_CS hcs (by first | omega | (simp only [List.length_append, List.length_cons, List.length_nil] <;> omega))) d54_10 pd33 rfl (pc' := 13) rfl rfl (wd := 0) rfl (by decide) (by decide) (by decide) (by decide) (fun T h10 v sf10 X q => ?_)
  obtain ⟨rfl, K10, u10, ku10, cu10, BLn, hu10, ge_u10, mu10⟩ := q
  replace X := W.only X mu10
  have ne_u10_o : u10 ≠ o := BLn.ne
  have in_u10 := in_step in_u2 hu10 KP.1
  have ne_jw_u10 : jw ≠ u10 := ne_new hu10 ne_jw_u2 EJ.lt
  have ne_s_u10 : s ≠ u10 := ne_new hu10 ne_s_u2 SS.lt
  have ne_d_u10 : d ≠ u10 := ne_new hu10 ne_d_u2 SS.lt'
  replace S_CS := Sta_keepL S_CS K10 (allS (Pln_exa E) (allS (Pln_exa YA) (all0)))
  replace S_FM := Sta_keepL S_FM K10 (allS (Pln_exa E) (allS (Pln_exa YA) (all0)))
  replace S_FI := Sta_keepL S_FI K10 (allS (Pln_exa E) (allS (Pln_exa YA) (all0)))
  replace EJ := EJ.keep K10
  replace JT := JT.keep K10 (nin2 ne_jw_o ne_jw_u2)
  replace E := E.keep K10
  replace O := O.keep K10 (allS ge_o (allS ge_u2 (all0)))
  replace KP := KP.trans K10 (allS (Or.inl (List.mem_of_getElem? (i := 0) rfl)) (allS (in_mem in_u2) (all0)))
  replace SS := SS.keep K10 (nin2 ne_s_o ne_s_u2) (nin2 ne_d_o ne_d_u2)
  replace SE := SE.keep K10
  replace YA := YA.keep K10
  have BL : Bld Z _ o u10 ku10 cu10 (((((L ++ [34]) ++ [fs 0]) ++ [34]) ++ [58]) ++ [102, 97, 108, 115, 101]) := BLn
  have YA := BL.2.1
  show Go Γ n0 _ T (mkF Γ.m 13 #[.val (.ref jw), .val (.ref s), .val (.int (0 : Int32))] [(.ref o)])
  refine k_pop G X d54_13 (pc' := 14) rfl rfl ?_
  refine k_retv G X d54_14 rfl ?_ (by decide) (by decide)
  exact ⟨rfl, KP, u10, ku10, cu10, BL, in_u10, ge_u10, (List.mem_of_getElem? (i := 0) rfl)⟩
theorem pn_47 : plainFor (⟨"com/example/half_message_commit/halfmessagecommit/protocol/JsonWriter", "member", "(Ljava/lang/String;Ljava/lang/String;)V"⟩ : MethodName) = true := plainFor_of_name (by first | (simp [plainName, overriddenIn]; done) | decide +kernel)
set_option maxRecDepth 65536 in
set_option maxHeartbeats 40000000 in
theorem mn {Z : State} {a0 : Array Value} (hw : HW a0 Z) (jw o b : Addr) (k : ClassId) (cap : Nat) (L : List Int32) (cs : Int32) (fm : Value) (i : Nat) (x : Int32) (s d : Addr) (kd : ClassId) (fs : Nat → Int32) (fi : Value) (h0 : Heap) (n0 : Nat) (sf0 : List Addr) (EJ : Exa Z h0 jw "com/example/half_message_commit/halfmessagecommit/protocol/JsonWriter") (JT : Fld Z h0 jw "com/example/half_message_commit/halfmessagecommit/protocol/JsonWriter" "text" "Ljava/lang/StringBuilder;" (.ref o)) (gm_o : n0 ≤ o ∧ o ∈ sf0) (gm_b : n0 ≤ b ∧ b ∈ sf0) (O : Old Z n0 h0) (BL : Bld Z h0 o b k cap L) (S_CS : Sta Z h0 "java/lang/String" "COMPACT_STRINGS" "Z" (.int cs)) (hcs : cs ≠ 0) (S_FM : Sta Z h0 "jdk/internal/util/Preconditions" "SIOOBE_FORMATTER" "Ljava/util/function/BiFunction;" fm) (hfm : fm.isRef = true) (hLi : L.length = i + 1) (hx : L.getD i 0 = x) (hx0 : 0 ≤ x.toInt) (hx1 : x.toInt ≤ 127) (hxx : x = 123 ∨ x = 91) (SS : Str Z h0 s d kd 1 fs) (hf0 : fs 0 = 97) (ne_s_o : s ≠ o) (ne_d_o : d ≠ o) (ne_s_b : s ≠ b) (ne_d_b : d ≠ b) (S_FI : Sta Z h0 "jdk/internal/util/Preconditions" "IOOBE_FORMATTER" "Ljava/util/function/BiFunction;" fi) (hfi : fi.isRef = true) (hL : L.length + 8 ≤ 32) :
    MetW Z consts_1 sf0 (⟨"com/example/half_message_commit/halfmessagecommit/protocol/JsonWriter", "member", "(Ljava/lang/String;Ljava/lang/String;)V"⟩ : MethodName) prog_24_method_7_code 3 none [] ({ frames := 8, cells := 7, slots := 340, locals := 122 } : Room) #[(.ref jw), (.ref s), .null] h0 n0 (fun v h sf => v = none ∧ Keep h0 h [o, b] ∧ ∃ u ku cu, Bld Z h o u ku cu (((((L ++ [34]) ++ [fs 0]) ++ [34]) ++ [58]) ++ [110, 117, 108, 108]) ∧ (u = b ∨ h0.size ≤ u) ∧ n0 ≤ u ∧ u ∈ sf) := by
  refine k_body (hEW hw) (f := (fun m => mkF m 0 #[.val (.ref jw), .val (.ref s), .val .null] [])) pn_47 (fun m => by first | (simp [entryFrame, mkF, argsToLocals, Value.category, maxLocals]; done) | rfl) ?_
  intro Γ T G X
  have ge_o := gm_o.1
  have ge_b := gm_b.1
  have E := BL.1
  have YA := BL.2.1
  have ne_b_o : b ≠ o := BL.ne
  have ne_jw_o : jw ≠ o := ne_exa EJ E (by decide)
  have ne_jw_b : jw ≠ b := ne_exa EJ YA (by decide)
  have KP := Keep.refl h0 [o, b]
  have in_b : b = b ∨ h0.size ≤ b := Or.inl rfl
  have SE := SS.1
  show Go Γ n0 _ T (mkF Γ.m 0 #[.val (.ref jw), .val (.ref s), .val .null] [])
  refine k_aloadN G X d47_0 (pc' := 1) rfl rfl rfl ?_
  refine k_aloadN G X d47_1 (pc' := 2) rfl rfl rfl ?_
  refine k_callP G X (argsL := [(.ref s)]) (rest := []) rfl EJ (w93 hw) (w94 hw) (selP (w1 hw) (w95 hw) (w94 hw) (by decide)) (w95 hw) (w2 hw) (w96 hw) (by decide) (jname hw jw o b k cap L cs fm i x s d kd fs fi h0 n0 _ EJ JT ⟨ge_o, (List.mem_append_right [] gm_o.2)⟩ ⟨ge_b, (List.mem_append_right [] gm_b.2)⟩ O BL S_CS hcs S_FM hfm hLi hx hx0 hx1 hxx SS hf0 ne_s_o ne_d_o ne_s_b ne_d_b S_FI hfi (by omega)) d47_2 pd21 rfl (pc' := 5) rfl rfl (wd := 0) rfl (by decide) (by decide) (by decide) (by decide) (fun T h2 v sf2 X q => ?_)
  obtain ⟨rfl, K2, u2, ku2, cu2, BLn, hu2, ge_u2, mu2⟩ := q
  replace X := W.only X mu2
  have ne_u2_o : u2 ≠ o := BLn.ne
  have in_u2 := in_step in_b hu2 KP.1
  have ne_jw_u2 : jw ≠ u2 := ne_new hu2 ne_jw_b EJ.lt
  have ne_s_u2 : s ≠ u2 := ne_new hu2 ne_s_b SS.lt
  have ne_d_u2 : d ≠ u2 := ne_new hu2 ne_d_b SS.lt'
  replace S_CS := Sta_keepL S_CS K2 (allS (Pln_exa E) (allS (Pln_exa YA) (all0)))
  replace S_FM := Sta_keepL S_FM K2 (allS (Pln_exa E) (allS (Pln_exa YA) (all0)))
  replace S_FI := Sta_keepL S_FI K2 (allS (Pln_exa E) (allS (Pln_exa YA) (all0)))
  replace EJ := EJ.keep K2
  replace JT := JT.keep K2 (nin2 ne_jw_o ne_jw_b)
  replace E := E.keep K2
  replace YA := YA.keep K2
  replace O := O.keep K2 (allS ge_o (allS ge_b (all0)))
  replace KP := KP.trans K2 (allS (Or.inl (List.mem_of_getElem? (i := 0) rfl)) (allS (Or.inl (List.mem_of_getElem? (i := 1) rfl)) (all0)))
  replace SS := SS.keep K2 (nin2 ne_s_o ne_s_b) (nin2 ne_d_o ne_d_b)
  replace SE := SE.keep K2
  have BL : Bld Z _ o u2 ku2 cu2 ((((L ++ [34]) ++ [fs 0]) ++ [34]) ++ [58]) := BLn
  have YA := BL.2.1
  show Go Γ n0 _ T (mkF Γ.m 5 #[.val (.ref jw), .val (.ref s), .val .null] [])
  refine k_aloadN G X d47_5 (pc' := 6) rfl rfl rfl ?_
  refine k_ifnonnull G X d47_6 (pc' := 22) rfl (by decide) (pc'' := 9) rfl rfl (fun _ c6 => (absurd c6 (by simp))) (fun c6 => ?_)
  refine k_aloadN G X d47_9 (pc' := 10) rfl rfl rfl ?_
  refine k_getF G X (host := "") (Or.inl (w35 hw)) Via.refl JT d47_10 (pc' := 13) rfl (fun T X => ?_)
  refine k_ldcH G X (n := 16) (vs := ([110, 117, 108, 108] : List Int32)) (z := 4) (w256 hw) (strAtoms hw) (by decide) ⟨by decide, by decide⟩ (by decide) d47_13 (pc' := 15) rfl (by decide) (by decide) (by decide) (by decide) (fun T h13 sN sNd k13 E13 Xs Fc Fv Fa hne13 X => ?_)
  replace EJ := EJ.ext E13
  replace JT := JT.ext E13
  replace E := E.ext E13
  replace O := O.ext E13
  replace KP := KP.ext E13
  replace S_CS := S_CS.ext E13
  replace S_FM := S_FM.ext E13
  replace SS := SS.ext E13
  replace SE := SE.ext E13
  replace S_FI := S_FI.ext E13
  replace BL := BL.ext E13
  replace YA := YA.ext E13
  have SNU : Str Z h13 sN sNd k13 4 (fun i => ([110, 117, 108, 108] : List Int32).getD i 0) := ⟨Xs, Fc, Fv, Fa⟩
  have X_sN := Xs
  have ne_u2_sN := (hne13 u2 (List.mem_of_getElem? (i := 0) rfl)).1
  have ne_u2_sNd := (hne13 u2 (List.mem_of_getElem? (i := 0) rfl)).2
  have ne_o_sN := (hne13 o (List.mem_append_right [u2] gm_o.2)).1
  have ne_o_sNd := (hne13 o (List.mem_append_right [u2] gm_o.2)).2
  have ne_b_sN := (hne13 b (List.mem_append_right [u2] gm_b.2)).1
  have ne_b_sNd := (hne13 b (List.mem_append_right [u2] gm_b.2)).2
  refine k_callV G X (argsL := [(.ref sN)]) (rest := []) rfl E (w257 hw) (w258 hw) (nf_sel (w260 hw)) (w260 hw) (w259 hw) (w12 hw) (w261 hw) (by decide) (sb_as hw o u2 ku2 cu2 ((((L ++ [34]) ++ [fs 0]) ++ [34]) ++ [58]) cs sN sNd k13 4 (4 : Int32) (fun i => ([110, 117, 108, 108] : List Int32).getD i 0) [110, 117, 108, 108] h13 n0 _ ⟨ge_o, (List.mem_append_right [u2] gm_o.2)⟩ ⟨ge_u2, (List.mem_of_getElem? (i := 0) rfl)⟩ O BL S_CS hcs SNU rfl (Ne.symm ne_o_sN) (Ne.symm ne_o_sNd) (Ne.symm ne_u2_sN) (Ne.symm ne_u2_sNd) (by first | omega | (simp only [List.length_append, List.length_cons, List.length_nil] <;> omega)) rfl (fun i _ => rfl)) d47_15 pd34 rfl (pc' := 18) rfl rfl (wd := 0) rfl (by decide) (by decide) (by decide) (by decide) (fun T h15 v sf15 X q => ?_)
  obtain ⟨rfl, K15, u15, ku15, cu15, BLn, hu15, ge_u15, mu15⟩ := q
  replace X := W.only X mu15
  have ne_u15_o : u15 ≠ o := BLn.ne
  have in_u15 := in_step in_u2 hu15 KP.1
  have ne_jw_u15 : jw ≠ u15 := ne_new hu15 ne_jw_u2 EJ.lt
  have ne_s_u15 : s ≠ u15 := ne_new hu15 ne_s_u2 SS.lt
  have ne_d_u15 : d ≠ u15 := ne_new hu15 ne_d_u2 SS.lt'
  have ne_sN_u15 : sN ≠ u15 := ne_new hu15 (Ne.symm ne_u2_sN) X_sN.lt
  have ne_sNd_u15 : sNd ≠ u15 := ne_new hu15 (Ne.symm ne_u2_sNd) SNU.lt'
  replace S_CS := Sta_keepL S_CS K15 (allS (Pln_exa E) (allS (Pln_exa YA) (all0)))
  replace S_FM := Sta_keepL S_FM K15 (allS (Pln_exa E) (allS (Pln_exa YA) (all0)))
  replace S_FI := Sta_keepL S_FI K15 (allS (Pln_exa E) (allS (Pln_exa YA) (all0)))
  replace EJ := EJ.keep K15
  replace JT := JT.keep K15 (nin2 ne_jw_o ne_jw_u2)
  replace E := E.keep K15
  replace O := O.keep K15 (allS ge_o (allS ge_u2 (all0)))
  replace KP := KP.trans K15 (allS (Or.inl (List.mem_of_getElem? (i := 0) rfl)) (allS (in_mem in_u2) (all0)))
  replace SS := SS.keep K15 (nin2 ne_s_o ne_s_u2) (nin2 ne_d_o ne_d_u2)
  replace SE := SE.keep K15
  replace YA := YA.keep K15
  replace X_sN := X_sN.keep K15
  replace SNU := SNU.keep K15 (nin2 (Ne.symm ne_o_sN) (Ne.symm ne_u2_sN)) (nin2 (Ne.symm ne_o_sNd) (Ne.symm ne_u2_sNd))
  have BL : Bld Z _ o u15 ku15 cu15 (((((L ++ [34]) ++ [fs 0]) ++ [34]) ++ [58]) ++ [110, 117, 108, 108]) := BLn
  have YA := BL.2.1
  show Go Γ n0 _ T (mkF Γ.m 18 #[.val (.ref jw), .val (.ref s), .val .null] [(.ref o)])
  refine k_pop G X d47_18 (pc' := 19) rfl rfl ?_
  refine k_goto G X d47_19 (by decide) (pc' := 27) rfl ?_
  refine k_retv G X d47_27 rfl ?_ (by decide) (by decide)
  exact ⟨rfl, KP, u15, ku15, cu15, BL, in_u15, ge_u15, (List.mem_of_getElem? (i := 0) rfl)⟩
theorem pn_58 : plainFor (⟨"com/example/half_message_commit/halfmessagecommit/protocol/JsonWriter", "member", "(Ljava/lang/String;J)V"⟩ : MethodName) = true := plainFor_of_name (by first | (simp [plainName, overriddenIn]; done) | decide +kernel)
set_option maxRecDepth 65536 in
set_option maxHeartbeats 40000000 in
theorem mj {Z : State} {a0 : Array Value} (hw : HW a0 Z) (jw o b : Addr) (k : ClassId) (cap : Nat) (L : List Int32) (cs : Int32) (fm : Value) (i : Nat) (x : Int32) (s d : Addr) (kd : ClassId) (fs : Nat → Int32) (fi : Value) (qv : Int64) (dO dT : Addr) (kO kT : ClassId) (gO gT : Nat → Int32) (h0 : Heap) (n0 : Nat) (sf0 : List Addr) (EJ : Exa Z h0 jw "com/example/half_message_commit/halfmessagecommit/protocol/JsonWriter") (JT : Fld Z h0 jw "com/example/half_message_commit/halfmessagecommit/protocol/JsonWriter" "text" "Ljava/lang/StringBuilder;" (.ref o)) (gm_o : n0 ≤ o ∧ o ∈ sf0) (gm_b : n0 ≤ b ∧ b ∈ sf0) (O : Old Z n0 h0) (BL : Bld Z h0 o b k cap L) (S_CS : Sta Z h0 "java/lang/String" "COMPACT_STRINGS" "Z" (.int cs)) (hcs : cs ≠ 0) (S_FM : Sta Z h0 "jdk/internal/util/Preconditions" "SIOOBE_FORMATTER" "Ljava/util/function/BiFunction;" fm) (hfm : fm.isRef = true) (hLi : L.length = i + 1) (hx : L.getD i 0 = x) (hx0 : 0 ≤ x.toInt) (hx1 : x.toInt ≤ 127) (hxx : x = 123 ∨ x = 91) (SS : Str Z h0 s d kd 1 fs) (hf0 : fs 0 = 97) (ne_s_o : s ≠ o) (ne_d_o : d ≠ o) (ne_s_b : s ≠ b) (ne_d_b : d ≠ b) (S_FI : Sta Z h0 "jdk/internal/util/Preconditions" "IOOBE_FORMATTER" "Ljava/util/function/BiFunction;" fi) (hfi : fi.isRef = true) (AO : Arf Z h0 dO kO .byte 100 (fun i => .int (gO i))) (AT : Arf Z h0 dT kT .byte 100 (fun i => .int (gT i))) (S_O : Sta Z h0 "java/lang/Integer" "DigitOnes" "[B" (.ref dO)) (S_T : Sta Z h0 "java/lang/Integer" "DigitTens" "[B" (.ref dT)) (hO : ∀ i, i < 100 → dig (gO i)) (hT : ∀ i, i < 100 → dig (gT i)) (ne_dO_o : dO ≠ o) (ne_dT_o : dT ≠ o) (ne_dO_b : dO ≠ b) (ne_dT_b : dT ≠ b) (hL : L.length + 24 ≤ 32) :
    MetW Z consts_1 sf0 (⟨"com/example/half_message_commit/halfmessagecommit/protocol/JsonWriter", "member", "(Ljava/lang/String;J)V"⟩ : MethodName) prog_24_method_8_code 4 none [] ({ frames := 8, cells := 5, slots := 320, locals := 122 } : Room) #[(.ref jw), (.ref s), (.long qv)] h0 n0 (fun v h sf => v = none ∧ Keep h0 h [o, b] ∧ ∃ u ku cu D, (1 ≤ D.length ∧ D.length ≤ 20 ∧ dig (D.getD (D.length - 1) 0)) ∧ Bld Z h o u ku cu (((((L ++ [34]) ++ [fs 0]) ++ [34]) ++ [58]) ++ D) ∧ (u = b ∨ h0.size ≤ u) ∧ n0 ≤ u ∧ u ∈ sf) := by
  refine k_body (hEW hw) (f := (fun m => mkF m 0 #[.val (.ref jw), .val (.ref s), .val (.long qv), .second] [])) pn_58 (fun m => by first | (simp [entryFrame, mkF, argsToLocals, Value.category, maxLocals]; done) | rfl) ?_
  intro Γ T G X
  have ge_o := gm_o.1
  have ge_b := gm_b.1
  have E := BL.1
  have YA := BL.2.1
  have ne_b_o : b ≠ o := BL.ne
  have ne_jw_o : jw ≠ o := ne_exa EJ E (by decide)
  have ne_jw_b : jw ≠ b := ne_exa EJ YA (by decide)
  have KP := Keep.refl h0 [o, b]
  have in_b : b = b ∨ h0.size ≤ b := Or.inl rfl
  have SE := SS.1
  show Go Γ n0 _ T (mkF Γ.m 0 #[.val (.ref jw), .val (.ref s), .val (.long qv), .second] [])
  refine k_aloadN G X d58_0 (pc' := 1) rfl rfl rfl ?_
  refine k_aloadN G X d58_1 (pc' := 2) rfl rfl rfl ?_
  refine k_callP G X (argsL := [(.ref s)]) (rest := []) rfl EJ (w93 hw) (w94 hw) (selP (w1 hw) (w95 hw) (w94 hw) (by decide)) (w95 hw) (w2 hw) (w96 hw) (by decide) (jname hw jw o b k cap L cs fm i x s d kd fs fi h0 n0 _ EJ JT ⟨ge_o, (List.mem_append_right [] gm_o.2)⟩ ⟨ge_b, (List.mem_append_right [] gm_b.2)⟩ O BL S_CS hcs S_FM hfm hLi hx hx0 hx1 hxx SS hf0 ne_s_o ne_d_o ne_s_b ne_d_b S_FI hfi (by omega)) d58_2 pd21 rfl (pc' := 5) rfl rfl (wd := 0) rfl (by decide) (by decide) (by decide) (by decide) (fun T h2 v sf2 X q => ?_)
  obtain ⟨rfl, K2, u2, ku2, cu2, BLn, hu2, ge_u2, mu2⟩ := q
  replace X := W.only X mu2
  have ne_u2_o : u2 ≠ o := BLn.ne
  have in_u2 := in_step in_b hu2 KP.1
  have ne_jw_u2 : jw ≠ u2 := ne_new hu2 ne_jw_b EJ.lt
  have ne_s_u2 : s ≠ u2 := ne_new hu2 ne_s_b SS.lt
  have ne_d_u2 : d ≠ u2 := ne_new hu2 ne_d_b SS.lt'
  have ne_dO_u2 : dO ≠ u2 := ne_new hu2 ne_dO_b AO.lt
  have ne_dT_u2 : dT ≠ u2 := ne_new hu2 ne_dT_b AT.lt
  replace S_CS := Sta_keepL S_CS K2 (allS (Pln_exa E) (allS (Pln_exa YA) (all0)))
  replace S_FM := Sta_keepL S_FM K2 (allS (Pln_exa E) (allS (Pln_exa YA) (all0)))
  replace S_FI := Sta_keepL S_FI K2 (allS (Pln_exa E) (allS (Pln_exa YA) (all0)))
  replace S_O := Sta_keepL S_O K2 (allS (Pln_exa E) (allS (Pln_exa YA) (all0)))
  replace S_T := Sta_keepL S_T K2 (allS (Pln_exa E) (allS (Pln_exa YA) (all0)))
  replace EJ := EJ.keep K2
  replace JT := JT.keep K2 (nin2 ne_jw_o ne_jw_b)
  replace E := E.keep K2
  replace YA := YA.keep K2
  replace O := O.keep K2 (allS ge_o (allS ge_b (all0)))
  replace KP := KP.trans K2 (allS (Or.inl (List.mem_of_getElem? (i := 0) rfl)) (allS (Or.inl (List.mem_of_getElem? (i := 1) rfl)) (all0)))
  replace SS := SS.keep K2 (nin2 ne_s_o ne_s_b) (nin2 ne_d_o ne_d_b)
  replace SE := SE.keep K2
  replace AO := AO.keep K2 (nin2 ne_dO_o ne_dO_b)
  replace AT := AT.keep K2 (nin2 ne_dT_o ne_dT_b)
  have BL : Bld Z _ o u2 ku2 cu2 ((((L ++ [34]) ++ [fs 0]) ++ [34]) ++ [58]) := BLn
  have YA := BL.2.1
  show Go Γ n0 _ T (mkF Γ.m 5 #[.val (.ref jw), .val (.ref s), .val (.long qv), .second] [])
  refine k_aloadN G X d58_5 (pc' := 6) rfl rfl rfl ?_
  refine k_getF G X (host := "") (Or.inl (w35 hw)) Via.refl JT d58_6 (pc' := 9) rfl (fun T X => ?_)
  refine k_lloadN G X d58_9 (pc' := 10) rfl rfl ?_
  refine k_callV G X (argsL := [(.long qv)]) (rest := []) rfl E (w319 hw) (w320 hw) (nf_sel (w322 hw)) (w322 hw) (w321 hw) (w12 hw) (w323 hw) (by decide) (sb_aj hw o u2 ku2 cu2 ((((L ++ [34]) ++ [fs 0]) ++ [34]) ++ [58]) cs qv dO dT kO kT gO gT h2 n0 _ ⟨ge_o, (List.mem_append_right [u2] gm_o.2)⟩ ⟨ge_u2, (List.mem_of_getElem? (i := 0) rfl)⟩ O BL S_CS hcs AO AT S_O S_T hO hT ne_dO_u2 ne_dT_u2 ne_dO_o ne_dT_o (by first | omega | (simp only [List.length_append, List.length_cons, List.length_nil] <;> omega))) d58_10 pd35 rfl (pc' := 13) rfl rfl (wd := 0) rfl (by decide) (by decide) (by decide) (by decide) (fun T h10 v sf10 X q => ?_)
  obtain ⟨rfl, K10, u10, ku10, cu10, D, hDD, BLn, hu10, ge_u10, mu10⟩ := q
  replace X := W.only X mu10
  have ne_u10_o : u10 ≠ o := BLn.ne
  have in_u10 := in_step in_u2 hu10 KP.1
  have ne_jw_u10 : jw ≠ u10 := ne_new hu10 ne_jw_u2 EJ.lt
  have ne_s_u10 : s ≠ u10 := ne_new hu10 ne_s_u2 SS.lt
  have ne_d_u10 : d ≠ u10 := ne_new hu10 ne_d_u2 SS.lt'
  have ne_dO_u10 : dO ≠ u10 := ne_new hu10 ne_dO_u2 AO.lt
  have ne_dT_u10 : dT ≠ u10 := ne_new hu10 ne_dT_u2 AT.lt
  replace S_CS := Sta_keepL S_CS K10 (allS (Pln_exa E) (allS (Pln_exa YA) (all0)))
  replace S_FM := Sta_keepL S_FM K10 (allS (Pln_exa E) (allS (Pln_exa YA) (all0)))
  replace S_FI := Sta_keepL S_FI K10 (allS (Pln_exa E) (allS (Pln_exa YA) (all0)))
  replace S_O := Sta_keepL S_O K10 (allS (Pln_exa E) (allS (Pln_exa YA) (all0)))
  replace S_T := Sta_keepL S_T K10 (allS (Pln_exa E) (allS (Pln_exa YA) (all0)))
  replace EJ := EJ.keep K10
  replace JT := JT.keep K10 (nin2 ne_jw_o ne_jw_u2)
  replace E := E.keep K10
  replace O := O.keep K10 (allS ge_o (allS ge_u2 (all0)))
  replace KP := KP.trans K10 (allS (Or.inl (List.mem_of_getElem? (i := 0) rfl)) (allS (in_mem in_u2) (all0)))
  replace SS := SS.keep K10 (nin2 ne_s_o ne_s_u2) (nin2 ne_d_o ne_d_u2)
  replace SE := SE.keep K10
  replace AO := AO.keep K10 (nin2 ne_dO_o ne_dO_u2)
  replace AT := AT.keep K10 (nin2 ne_dT_o ne_dT_u2)
  replace YA := YA.keep K10
  have BL : Bld Z _ o u10 ku10 cu10 (((((L ++ [34]) ++ [fs 0]) ++ [34]) ++ [58]) ++ D) := BLn
  have YA := BL.2.1
  show Go Γ n0 _ T (mkF Γ.m 13 #[.val (.ref jw), .val (.ref s), .val (.long qv), .second] [(.ref o)])
  refine k_pop G X d58_13 (pc' := 14) rfl rfl ?_
  refine k_retv G X d58_14 rfl ?_ (by decide) (by decide)
  exact ⟨rfl, KP, u10, ku10, cu10, D, hDD, BL, in_u10, ge_u10, (List.mem_of_getElem? (i := 0) rfl)⟩
theorem pn_37 : plainFor (⟨"com/example/half_message_commit/halfmessagecommit/protocol/JsonWriter", "text", "()Ljava/lang/String;"⟩ : MethodName) = true := plainFor_of_name (by first | (simp [plainName, overriddenIn]; done) | decide +kernel)
set_option maxRecDepth 65536 in
set_option maxHeartbeats 40000000 in
theorem jtext {Z : State} {a0 : Array Value} (hw : HW a0 Z) (jw o b : Addr) (k : ClassId) (cap : Nat) (L : List Int32) (cs : Int32) (h0 : Heap) (n0 : Nat) (sf0 : List Addr) (EJ : Exa Z h0 jw "com/example/half_message_commit/halfmessagecommit/protocol/JsonWriter") (JT : Fld Z h0 jw "com/example/half_message_commit/halfmessagecommit/protocol/JsonWriter" "text" "Ljava/lang/StringBuilder;" (.ref o)) (gm_o : n0 ≤ o ∧ o ∈ sf0) (gm_b : n0 ≤ b ∧ b ∈ sf0) (O : Old Z n0 h0) (BL : Bld Z h0 o b k cap L) (S_CS : Sta Z h0 "java/lang/String" "COMPACT_STRINGS" "Z" (.int cs)) (hcs : cs ≠ 0) (hL : L.length ≤ 32) :
    MetW Z consts_1 sf0 (⟨"com/example/half_message_commit/halfmessagecommit/protocol/JsonWriter", "text", "()Ljava/lang/String;"⟩ : MethodName) prog_24_method_10_code 1 (some (.object "java/lang/String")) [] ({ frames := 6, cells := 2, slots := 36, locals := 91 } : Room) #[(.ref jw)] h0 n0 (fun v h sf => ∃ s r kr, v = some (.ref s) ∧ h0.size ≤ s ∧ h0.size ≤ r ∧ Keep h0 h [] ∧ Str Z h s r kr L.length (fun i => L.getD i 0) ∧ s ∈ sf) := by
  refine k_body (hEW hw) (f := (fun m => mkF m 0 #[.val (.ref jw)] [])) pn_37 (fun m => by first | (simp [entryFrame, mkF, argsToLocals, Value.category, maxLocals]; done) | rfl) ?_
  intro Γ T G X
  have ge_o := gm_o.1
  have ge_b := gm_b.1
  obtain ⟨E, YB, FV, FC, ⟨zN, hN, FN⟩, ⟨f, B, hf⟩, hcap⟩ := id BL
  have ne_b_o : b ≠ o := BL.ne
  obtain ⟨zC, hC⟩ : ∃ z : Int32, z.toInt = cap := ⟨cap.toInt32, len_toInt B.size_lt⟩
  have e1 : (1 : Int32).toInt = 1 := rfl
  have KP := Keep.refl h0 []
  show Go Γ n0 _ T (mkF Γ.m 0 #[.val (.ref jw)] [])
  refine k_aloadN G X d37_0 (pc' := 1) rfl rfl rfl ?_
  refine k_getF G X (host := "") (Or.inl (w35 hw)) Via.refl JT d37_1 (pc' := 4) rfl (fun T X => ?_)
  refine k_callV G X (argsL := []) (rest := []) rfl E (w211 hw) (w212 hw) (nf_sel (w214 hw)) (w214 hw) (w213 hw) (w12 hw) (w215 hw) (by decide) (sb_str hw o b k cap L.length zC zN cs _ h0 n0 _ O E FV FC FN B YB hC hN hcap hL S_CS hcs) d37_4 pd36 rfl (pc' := 7) rfl rfl (wd := 0) rfl (by decide) (by decide) (by decide) (by decide) (fun T h4 v sf4 X q => ?_)
  obtain ⟨s, r, kr, rfl, sz_s, sz_r, K4, RE, RC, RV, RA, ms⟩ := q
  replace X := W.only X ms
  show Go Γ n0 _ T (mkF Γ.m 7 #[.val (.ref jw)] [(.ref s)])
  refine k_reta G X d37_7 (t := (.object "java/lang/String")) rfl rfl rfl ?_ (by decide) (by decide)
  exact ⟨s, r, kr, rfl, sz_s, sz_r, K4, ⟨RE, RC, RV, RA.congr fun i hi => by rw [hf i hi]⟩, (List.mem_of_getElem? (i := 0) rfl)⟩
theorem pn_3 : plainFor (⟨"java/lang/Math", "min", "(JJ)J"⟩ : MethodName) = true := Jvm.Free.JP.mathPlain rfl (by decide +kernel)
set_option maxRecDepth 65536 in
set_option maxHeartbeats 40000000 in
theorem lmin {Z : State} {a0 : Array Value} (hw : HW a0 Z) (a : Int64) (h0 : Heap) (n0 : Nat) (sf0 : List Addr) (ha : a.toInt ≤ 65535) :
    MetW Z consts_1 sf0 (⟨"java/lang/Math", "min", "(JJ)J"⟩ : MethodName) jdk_29_method_70_code 4 (some .long) [] ({ frames := 0, cells := 0, slots := 0, locals := 0 } : Room) #[(.long a), (.long (2147483639 : Int64))] h0 n0 (fun v h sf => v = some (.long a) ∧ h = h0) := by
  refine k_body (hEW hw) (f := (fun m => mkF m 0 #[.val (.long a), .second, .val (.long (2147483639 : Int64)), .second] [])) pn_3 (fun m => by first | (simp [entryFrame, mkF, argsToLocals, Value.category, maxLocals]; done) | rfl) ?_
  intro Γ T G X
  show Go Γ n0 _ T (mkF Γ.m 0 #[.val (.long a), .second, .val (.long (2147483639 : Int64)), .second] [])
  refine k_lloadN G X d3_0 (pc' := 1) rfl rfl ?_
  refine k_lloadN G X d3_1 (pc' := 2) rfl rfl ?_
  refine k_lcmp G X d3_2 (pc' := 3) rfl rfl ?_
  obtain ⟨cz, q_cz⟩ : ∃ z, (if a > (2147483639 : Int64) then (1 : Int32) else if a = (2147483639 : Int64) then 0 else -1) = z := ⟨_, rfl⟩
  have n_cz := lcmp_toInt q_cz
  rw [q_cz]
  refine k_if_gt G X d3_3 (pc' := 10) rfl (by decide) (pc'' := 6) rfl (fun c3 => (absurd c3 (by have e : (2147483639 : Int64).toInt = 2147483639 := rfl; omega))) (fun c3 => ?_)
  refine k_lloadN G X d3_6 (pc' := 7) rfl rfl ?_
  refine k_goto G X d3_7 (by decide) (pc' := 11) rfl ?_
  refine k_retl G X d3_11 rfl ?_ (by decide) (by decide)
  exact ⟨rfl, rfl⟩
theorem pn_1 : plainFor (⟨"com/example/half_message_commit/halfmessagecommit/protocol/JsonWriter", "<init>", "(J)V"⟩ : MethodName) = true := plainFor_of_name (by first | (simp [plainName, overriddenIn]; done) | decide +kernel)
set_option maxRecDepth 65536 in
set_option maxHeartbeats 40000000 in
theorem jw_i {Z : State} {a0 : Array Value} (hw : HW a0 Z) (jw : Addr) (x : Int64) (cs : Int32) (n : Nat) (h0 : Heap) (n0 : Nat) (sf0 : List Addr) (gm_jw : n0 ≤ jw ∧ jw ∈ sf0) (O : Old Z n0 h0) (E : Exa Z h0 jw "com/example/half_message_commit/halfmessagecommit/protocol/JsonWriter") (JT : Fld Z h0 jw "com/example/half_message_commit/halfmessagecommit/protocol/JsonWriter" "text" "Ljava/lang/StringBuilder;" .null) (S_CS : Sta Z h0 "java/lang/String" "COMPACT_STRINGS" "Z" (.int cs)) (hcs : cs ≠ 0) (hxn : x.toInt = n) (hn : n ≤ 65535) :
    MetW Z consts_1 sf0 (⟨"com/example/half_message_commit/halfmessagecommit/protocol/JsonWriter", "<init>", "(J)V"⟩ : MethodName) prog_24_method_2_code 3 none [] ({ frames := 3, cells := 2, slots := 65539, locals := 40 } : Room) #[(.ref jw), (.long x)] h0 n0 (fun v h sf => v = none ∧ Keep h0 h [jw] ∧ Exa Z h jw "com/example/half_message_commit/halfmessagecommit/protocol/JsonWriter" ∧ ∃ o b k, h0.size ≤ o ∧ h0.size ≤ b ∧ Fld Z h jw "com/example/half_message_commit/halfmessagecommit/protocol/JsonWriter" "text" "Ljava/lang/StringBuilder;" (.ref o) ∧ Bld Z h o b k n [] ∧ b ∈ sf) := by
  refine k_body (hEW hw) (f := (fun m => mkF m 0 #[.val (.ref jw), .val (.long x), .second] [])) pn_1 (fun m => by first | (simp [entryFrame, mkF, argsToLocals, Value.category, maxLocals]; done) | rfl) ?_
  intro Γ T G X
  have ge_jw := gm_jw.1
  have KP := Keep.refl h0 [jw]
  show Go Γ n0 _ T (mkF Γ.m 0 #[.val (.ref jw), .val (.long x), .second] [])
  refine k_aloadN G X d1_0 (pc' := 1) rfl rfl rfl ?_
  refine k_initO G X (w7 hw) (w8 hw) (w9 hw) d1_1 (pc' := 4) rfl rfl (by decide) (wd := 0) rfl (by decide) (fun T X => ?_)
  refine k_aloadN G X d1_4 (pc' := 5) rfl rfl rfl ?_
  refine k_new G X (w10 hw) (w11 hw) (w12 hw) d1_5 (pc' := 8) rfl (by decide) (by decide) (fun T h5 b5 s_b5 E5 X_b5 D5 X => ?_)
  have ne_jw_b5 : jw ≠ b5 := Nat.ne_of_lt (Nat.lt_of_lt_of_eq E.lt s_b5)
  have ge_b5 : n0 ≤ b5 := Nat.le_trans (Jvm.OwnK.Old_le O) (Nat.le_of_eq s_b5)
  have sz_b5 : h0.size ≤ b5 := Nat.le_trans KP.1 (Nat.le_of_eq s_b5)
  replace E := E.ext E5
  replace O := O.ext E5
  replace JT := JT.ext E5
  replace KP := KP.ext E5
  replace S_CS := S_CS.ext E5
  have F_b5_value : Fld Z h5 b5 "java/lang/AbstractStringBuilder" "value" "[B" .null := D5 (Or.inl (w32 hw)) (ty := (.array .byte)) (by decide)
  have F_b5_coder : Fld Z h5 b5 "java/lang/AbstractStringBuilder" "coder" "B" (.int (0 : Int32)) := D5 (Or.inl (w34 hw)) (ty := .byte) (by decide)
  have F_b5_count : Fld Z h5 b5 "java/lang/AbstractStringBuilder" "count" "I" (.int (0 : Int32)) := D5 (Or.inl (w58 hw)) (ty := .int) (by decide)
  refine k_dup G X d1_8 (pc' := 9) rfl rfl ?_
  refine k_lloadN G X d1_9 (pc' := 10) rfl rfl ?_
  refine k_ldcL G X (w13 hw) d1_10 (pc' := 13) rfl ?_
  refine k_callS G X (argsL := [(.long x), (.long (2147483639 : Int64))]) (rest := [(.ref b5), (.ref b5), (.ref jw)]) rfl (w14 hw) (w15 hw) (w16 hw) (w17 hw) (by decide) (lmin hw x h5 n0 _ (by omega)) d1_13 pd37 rfl (pc' := 16) rfl rfl (wd := 3) rfl (by decide) (by decide) (by decide) (by decide) (fun T h13 v sf13 X q => ?_)
  replace X := W.drop X
  obtain ⟨rfl, e13⟩ := q
  replace X := X.eq e13
  show Go Γ n0 _ T (mkF Γ.m 16 #[.val (.ref jw), .val (.long x), .second] [(.long x), (.ref b5), (.ref b5), (.ref jw)])
  refine k_l2i G X d1_16 (pc' := 17) rfl rfl ?_
  obtain ⟨z, qz⟩ : ∃ z, (x.toInt32) = z := ⟨_, rfl⟩
  have m1 := c_l2i x; have m2 := rgI x.toInt32; rw [qz] at m1 m2 ⊢
  have hz : z.toInt = n := by omega
  refine k_callI G X (argsL := [(.int z)]) (rest := [(.ref b5), (.ref jw)]) rfl rfl (w18 hw) (w19 hw) (w12 hw) (w20 hw) (by decide) (sbi1 hw b5 z cs n h5 n0 _ ⟨ge_b5, (List.mem_of_getElem? (i := 0) rfl)⟩ O X_b5 F_b5_value F_b5_coder F_b5_count S_CS hcs hz hn) d1_17 pd15 rfl (pc' := 20) rfl rfl (wd := 2) rfl (by decide) (by decide) (by decide) (by decide) (fun T h17 v sf17 X q => ?_)
  obtain ⟨rfl, K17, b, k, sz_b', BL, hmb⟩ := q
  replace X := W.only X hmb
  have ne_jw_b : jw ≠ b := Nat.ne_of_lt (Nat.lt_of_lt_of_le E.lt sz_b')
  have sz_b := Nat.le_trans KP.1 sz_b'
  replace S_CS := Sta_keepL S_CS K17 (allS (Pln_exa X_b5) (all0))
  replace E := E.keep K17
  replace O := O.keep K17 (allS ge_b5 (all0))
  replace JT := JT.keep K17 (nin1 ne_jw_b5)
  replace KP := KP.trans K17 (allS (Or.inr sz_b5) (all0))
  replace X_b5 := X_b5.keep K17
  show Go Γ n0 _ T (mkF Γ.m 20 #[.val (.ref jw), .val (.long x), .second] [(.ref b5), (.ref jw)])
  refine k_putF G X (host := "") (Or.inl (w35 hw)) Via.refl JT E (Or.inr ⟨(w36 hw), rfl, rfl⟩) (w1 hw) (ty := (.object "java/lang/StringBuilder")) (by decide) rfl rfl ge_jw (List.mem_append_right [b, b5] gm_jw.2) d1_20 (pc' := 23) rfl (fun T h20 W20 X => ?_)
  replace E := E.wr W20
  replace O := O.wr W20 ge_jw
  replace JT := JT.same W20
  replace KP := KP.wr W20 (Or.inl (List.mem_of_getElem? (i := 0) rfl))
  replace S_CS := S_CS.wr W20
  replace X_b5 := X_b5.wr W20
  replace BL := BL.other W20 (Ne.symm ne_jw_b5) (Ne.symm ne_jw_b)
  refine k_retv G X d1_23 rfl ?_ (by decide) (by decide)
  exact ⟨rfl, KP, E, b5, b, k, sz_b5, sz_b, JT, BL, (List.mem_of_getElem? (i := 0) rfl)⟩

theorem m8 {x : Int32} (h0 : 0 ≤ x.toInt) (h1 : x.toInt ≤ 7) : x = 0 ∨ x = 1 ∨ x = 2 ∨ x = 3 ∨ x = 4 ∨ x = 5 ∨ x = 6 ∨ x = 7 := by
  rcases (by omega : x.toInt = 0 ∨ x.toInt = 1 ∨ x.toInt = 2 ∨ x.toInt = 3 ∨ x.toInt = 4 ∨ x.toInt = 5 ∨ x.toInt = 6 ∨ x.toInt = 7) with q | q | q | q | q | q | q | q
  · exact Or.inl (of_toInt q)
  · exact Or.inr (Or.inl (of_toInt q))
  · exact Or.inr (Or.inr (Or.inl (of_toInt q)))
  · exact Or.inr (Or.inr (Or.inr (Or.inl (of_toInt q))))
  · exact Or.inr (Or.inr (Or.inr (Or.inr (Or.inl (of_toInt q)))))
  · exact Or.inr (Or.inr (Or.inr (Or.inr (Or.inr (Or.inl (of_toInt q))))))
  · exact Or.inr (Or.inr (Or.inr (Or.inr (Or.inr (Or.inr (Or.inl (of_toInt q)))))))
  · exact Or.inr (Or.inr (Or.inr (Or.inr (Or.inr (Or.inr (Or.inr (of_toInt q)))))))
theorem gd_left {A B : List Int32} {i : Nat} (h : i < A.length) : (A ++ B).getD i 0 = A.getD i 0 := by simp [List.getD_eq_getElem?_getD, List.getElem?_append_left h]
theorem gd_right {A B : List Int32} {i j : Nat} (h : i = A.length + j) : (A ++ B).getD i 0 = B.getD j 0 := by
  subst h; simp [List.getD_eq_getElem?_getD, List.getElem?_append_right (Nat.le_add_right _ _)]
theorem s_lays {s : State} {args : Array Value} {CC n d : String} {t : FieldType} (hf : Fit s) (w0 : (Cond.initialized CC).before args s = true) (w1 : (Cond.laysStatic CC n d).before args s = true) (ht : parseFieldDescriptor d = some t) (href : refSort t = true) : ∃ v : Value, Sta s s.heap CC n d v ∧ v.isRef = true := by
  obtain ⟨c, k, i, fd, a, cell, hc, hff, hst, hsta, hcell, hiss, hcls, hlt, hty⟩ := Cond.laysStatic_spec w1
  have hv : cell.slots[fd.slot]? = some cell.slots[fd.slot] := Array.getElem?_eq_getElem hlt
  have hk : s.vm.classes[c]? = some k := (State.fieldFound?_spec hff).1
  have h1 := hf hcell hlt
  have h2 : fits t cell.slots[fd.slot] = true := by
    have htt := (State.fieldFound?_type hff ht).2
    cases hvm : cell.vm with
    | statics x => simpa [State.fitsSlot, State.slotType?, hcls, hk, hvm, hty, htt] using h1
    | _ => simp [hvm, VmData.isStatics] at hiss
  have he : (Term.static CC n d).eval args s none [] s = some cell.slots[fd.slot] := by
    simp [Term.eval, State.fieldNamed?, hff, hst, hsta, hcell, hiss, hv]
  refine ⟨_, Sta.start he (Or.inr ⟨w0, w1⟩), ?_⟩
  rcases fits_refSort href h2 with e | ⟨x, e⟩ <;> rw [e] <;> rfl
theorem s_dig {s : State} {args : Array Value} {nm : String} {rhs : Term} {F : Nat → Int32} (w0 : (Cond.initialized "java/lang/Integer").before args s = true) (w1 : (Cond.laysStatic "java/lang/Integer" nm "[B").before args s = true) (w2 : (Cond.exactly (Term.static "java/lang/Integer" nm "[B") "[B").before args s = true) (w3 : (Cond.eq (Term.length (Term.static "java/lang/Integer" nm "[B")) (Term.int 100)).before args s = true)
    (w4 : (Cond.all (Term.static "java/lang/Integer" nm "[B") (Cond.eq (Term.elem (Term.static "java/lang/Integer" nm "[B") (Term.index 0)) rhs)).before args s = true) (w5 : (Cond.arrayClass .byte).before args s = true) (hr : ∀ i, i < 100 → rhs.eval args s none [i] s = some (.int (F i))) (hF : ∀ i, i < 100 → dig (F i)) :
    ∃ a k, Sta s s.heap "java/lang/Integer" nm "[B" (.ref a) ∧ Arf s s.heap a k .byte 100 (fun i => .int (F i)) := by
  obtain ⟨a, cB, D, kB, ev, hfcB, hcellD, hkB, hstatD, hclsD, -⟩ := Cond.exactly_spec w2
  obtain ⟨cB', kB', comp, hnameB, hkB', hkindB⟩ := Cond.arrayClass_spec w5
  rw [show ("[" ++ FieldType.toString .byte) = "[B" by decide] at hnameB
  cases hfcB.symm.trans hnameB
  cases hkB.symm.trans hkB'
  have hl := Cond.before_iff.mp w3
  obtain ⟨d', D', hev', ed, -⟩ := Term.length_spec (Cond.eq_int w3 rfl)
  cases ev.symm.trans hev'
  obtain ⟨hcellD', hknD, -, -⟩ := State.arrayAt?_spec ed
  cases hcellD.symm.trans hcellD'
  have A : Arr s s.heap a D .byte := ⟨hcellD, ⟨(fun q h => by rw [h] at hstatD; cases hstatD), kB, (by rw [hclsD]; exact hkB), comp, hkindB⟩, hknD⟩
  have A2 := A.fin (Vm.Alike.refl _)
  have hsz : D.slots.size = 100 := by
    by_cases hb : D.slots.size < 2 ^ 31
    · have q := gotT (Cond.eq_ints (len_f ev A2 hb) (Term.int_eval 100)) hl
      have := congrArg Int32.toInt q
      rw [len_toInt hb, show (100 : Int32).toInt = 100 from rfl] at this
      omega
    · exfalso
      have : (Term.length (Term.static "java/lang/Integer" nm "[B")).eval args s none [] s = none := len_none ev A2 hb
      simp [Cond.value, this] at hl
  refine ⟨a, D.cls, Sta.start ev (Or.inr ⟨w0, w1⟩), D, A, rfl, hsz, by decide, fun i hi => ?_⟩
  have q := Cond.all_elim ev A2 (Cond.before_iff.mp w4) i (by omega)
  have hsl : D.slots[i]? = some D.slots[i] := Array.getElem?_eq_getElem (by omega)
  have ee : (Term.elem (Term.static "java/lang/Integer" nm "[B") (Term.index 0)).eval args s none [i] s = some D.slots[i] := by
    rw [Jvm.Free.SBG.elem_at (ix := .index 0) (show (Term.static "java/lang/Integer" nm "[B").eval args s none [i] s = some (.ref a) from ev) A2 (by omega) (by omega) rfl]; exact hsl
  simp only [Cond.value, ee, hr i hi] at q
  have e2 : D.slots[i] = .int (F i) := by
    cases hv : D.slots[i] <;> simp [hv] at q
    rw [q]
  rw [hsl, e2]
  exact ⟨rfl, by show fits .byte (.int (F i)) = true; rw [← nar_dig (hF i hi)]; exact fits_nar_byte _⟩

set_option maxRecDepth 65536 in
set_option maxHeartbeats 40000000 in
theorem md0 {Z : State} {a0 : Array Value} (hw : HW a0 Z) (p0 : Int64) (p1 cs : Int32) (p2 : Int64) (fm fi : Value) (dO dT : Addr) (kO kT : ClassId) (gO gT : Nat → Int32) (b0 o b : Addr) (k : ClassId) (nn : Nat) (fl : Int32) (h0 h9 : Heap) (n0 : Nat) (O : Old Z n0 h9) (S_CS : Sta Z h9 "java/lang/String" "COMPACT_STRINGS" "Z" (.int cs)) (hcs : cs ≠ 0) (S_FM : Sta Z h9 "jdk/internal/util/Preconditions" "SIOOBE_FORMATTER" "Ljava/util/function/BiFunction;" fm) (hfm : fm.isRef = true) (S_FI : Sta Z h9 "jdk/internal/util/Preconditions" "IOOBE_FORMATTER" "Ljava/util/function/BiFunction;" fi) (hfi : fi.isRef = true) (AO : Arf Z h9 dO kO .byte 100 (fun i => .int (gO i))) (AT : Arf Z h9 dT kT .byte 100 (fun i => .int (gT i))) (S_O : Sta Z h9 "java/lang/Integer" "DigitOnes" "[B" (.ref dO)) (S_T : Sta Z h9 "java/lang/Integer" "DigitTens" "[B" (.ref dT)) (hO : ∀ i, i < 100 → dig (gO i)) (hT : ∀ i, i < 100 → dig (gT i)) (EJ : Exa Z h9 b0 "com/example/half_message_commit/halfmessagecommit/protocol/JsonWriter") (JT : Fld Z h9 b0 "com/example/half_message_commit/halfmessagecommit/protocol/JsonWriter" "text" "Ljava/lang/StringBuilder;" (.ref o)) (BL : Bld Z h9 o b k nn []) (ge_b0 : n0 ≤ b0) (ge_o : n0 ≤ o) (ge_b : n0 ≤ b) (ne_b_o : b ≠ o) (ne_b0_b : b0 ≠ b) (ne_b0_o : b0 ≠ o) (ne_dO_b : dO ≠ b) (ne_dO_b0 : dO ≠ b0) (ne_dO_o : dO ≠ o) (ne_dT_b : dT ≠ b) (ne_dT_b0 : dT ≠ b0) (ne_dT_o : dT ≠ o) (hfl : fl = 0 ∨ fl = 1) (Γ : Cx) (T : State) (G : Ctx Γ Z consts_1 x.cls code maxLocals ret x.name room_1 h0) (X : W Γ n0 T h9 3 65540 (b :: b0 :: [])) : Go Γ n0 (fun v h sf => v = some (.int 1)) T (mkF Γ.m 38 #[.val (.long p0), .second, .val (.int p1), .val (.long p2), .second, .val (.ref b0), .val (.int (0 : Int32)), .val (.int fl), .unset, .unset, .unset] []) := by
  have E := BL.1
  have YA := BL.2.1
  refine k_iload G X at_38 (pc' := 40) rfl rfl ?_
  refine k_if_eq G X at_40 (pc' := 48) rfl (by decide) (pc'' := 43) rfl (fun c40 => ?_) (fun c40 => (absurd c40 (by decide)))
  refine k_iload G X at_48 (pc' := 50) rfl rfl ?_
  refine k_iconst G X at_50 (pc' := 51) rfl (z := (2 : Int32)) (by decide) ?_
  refine k_icmp_ne G X at_51 (pc' := 64) rfl (by decide) (pc'' := 54) rfl (fun c51 => ?_) (fun c51 => (absurd c51 (by decide)))
  refine k_iload G X at_64 (pc' := 66) rfl rfl ?_
  refine k_iconst G X at_66 (pc' := 67) rfl (z := (3 : Int32)) (by decide) ?_
  refine k_icmp_ne G X at_67 (pc' := 78) rfl (by decide) (pc'' := 70) rfl (fun c67 => ?_) (fun c67 => (absurd c67 (by decide)))
  refine k_iload G X at_78 (pc' := 80) rfl rfl ?_
  refine k_iconst G X at_80 (pc' := 81) rfl (z := (4 : Int32)) (by decide) ?_
  refine k_icmp_ne G X at_81 (pc' := 99) rfl (by decide) (pc'' := 84) rfl (fun c81 => ?_) (fun c81 => (absurd c81 (by decide)))
  refine k_iload G X at_99 (pc' := 101) rfl rfl ?_
  refine k_iconst G X at_101 (pc' := 102) rfl (z := (5 : Int32)) (by decide) ?_
  refine k_icmp_ne G X at_102 (pc' := 117) rfl (by decide) (pc'' := 105) rfl (fun c102 => ?_) (fun c102 => (absurd c102 (by decide)))
  refine k_iload G X at_117 (pc' := 119) rfl rfl ?_
  refine k_bipush G X at_119 (pc' := 121) rfl (z := (6 : Int32)) (by decide) ?_
  refine k_icmp_ne G X at_121 (pc' := 135) rfl (by decide) (pc'' := 124) rfl (fun c121 => ?_) (fun c121 => (absurd c121 (by decide)))
  refine k_iload G X at_135 (pc' := 137) rfl rfl ?_
  refine k_bipush G X at_137 (pc' := 139) rfl (z := (7 : Int32)) (by decide) ?_
  refine k_icmp_ne G X at_139 (pc' := 153) rfl (by decide) (pc'' := 142) rfl (fun c139 => ?_) (fun c139 => (absurd c139 (by decide)))
  refine k_aload G X at_153 (pc' := 155) rfl rfl rfl ?_
  replace X := W.addE G X E (by decide) (by decide)
  refine k_callV G X (argsL := []) (rest := []) rfl EJ (w206 hw) (w207 hw) (nf_sel (w209 hw)) (w209 hw) (w208 hw) (w2 hw) (w210 hw) (by decide) (jtext hw b0 o b k nn ([] : List Int32) cs h9 n0 _ EJ JT ⟨ge_o, (List.mem_of_getElem? (i := 0) rfl)⟩ ⟨ge_b, (List.mem_of_getElem? (i := 1) rfl)⟩ O BL S_CS hcs (by decide)) at_155 pd36 rfl (pc' := 158) rfl rfl (wd := 0) rfl (by decide) (by decide) (by decide) (by decide) (fun T h155 v sf155 X q => ?_)
  obtain ⟨s155, r155, k155, rfl, sz_s155, sz_r155, K155, T155, ms155⟩ := q
  replace X := W.only X ms155
  have ne_dO_s155 : dO ≠ s155 := Nat.ne_of_lt (Nat.lt_of_lt_of_le AO.lt sz_s155)
  have ne_dT_s155 : dT ≠ s155 := Nat.ne_of_lt (Nat.lt_of_lt_of_le AT.lt sz_s155)
  have ne_b0_s155 : b0 ≠ s155 := Nat.ne_of_lt (Nat.lt_of_lt_of_le EJ.lt sz_s155)
  have ne_o_s155 : o ≠ s155 := Nat.ne_of_lt (Nat.lt_of_lt_of_le BL.lt sz_s155)
  have ne_b_s155 : b ≠ s155 := Nat.ne_of_lt (Nat.lt_of_lt_of_le BL.lt' sz_s155)
  have ne_dO_r155 : dO ≠ r155 := Nat.ne_of_lt (Nat.lt_of_lt_of_le AO.lt sz_r155)
  have ne_dT_r155 : dT ≠ r155 := Nat.ne_of_lt (Nat.lt_of_lt_of_le AT.lt sz_r155)
  have ne_b0_r155 : b0 ≠ r155 := Nat.ne_of_lt (Nat.lt_of_lt_of_le EJ.lt sz_r155)
  have ne_o_r155 : o ≠ r155 := Nat.ne_of_lt (Nat.lt_of_lt_of_le BL.lt sz_r155)
  have ne_b_r155 : b ≠ r155 := Nat.ne_of_lt (Nat.lt_of_lt_of_le BL.lt' sz_r155)
  replace S_CS := Jvm.OwnK.Sta_keep S_CS K155
  replace S_FM := Jvm.OwnK.Sta_keep S_FM K155
  replace S_FI := Jvm.OwnK.Sta_keep S_FI K155
  replace S_O := Jvm.OwnK.Sta_keep S_O K155
  replace S_T := Jvm.OwnK.Sta_keep S_T K155
  replace O := O.keep K155 (all0)
  replace AO := AO.keep K155 nin0
  replace AT := AT.keep K155 nin0
  replace EJ := EJ.keep K155
  replace JT := JT.keep K155 nin0
  replace BL := BL.keep K155 nin0 nin0
  replace E := E.keep K155
  replace YA := YA.keep K155
  have T155 : Str Z _ s155 r155 k155 0 (fun i => ([] : List Int32).getD i 0) := T155
  have X_s155 := T155.1
  show Go Γ n0 _ T (mkF Γ.m 158 #[.val (.long p0), .second, .val (.int p1), .val (.long p2), .second, .val (.ref b0), .val (.int (0 : Int32)), .val (.int fl), .unset, .unset, .unset] [(.ref s155)])
  refine k_astore G X at_158 (pc' := 160) rfl rfl (l' := #[.val (.long p0), .second, .val (.int p1), .val (.long p2), .second, .val (.ref b0), .val (.int (0 : Int32)), .val (.int fl), .val (.ref s155), .unset, .unset]) rfl ?_
  refine k_aload G X at_160 (pc' := 162) rfl rfl rfl ?_
  refine k_callV G X (argsL := []) (rest := []) rfl EJ (w38 hw) (w39 hw) (nf_sel (w41 hw)) (w41 hw) (w40 hw) (w2 hw) (w42 hw) (by decide) (boE hw b0 o b k nn ([] : List Int32) cs  h155 n0 _ EJ JT ⟨ge_o, (List.mem_of_getElem? (i := 1) rfl)⟩ ⟨ge_b, (List.mem_of_getElem? (i := 2) rfl)⟩ O BL S_CS hcs rfl) at_162 pd31 rfl (pc' := 165) rfl rfl (wd := 0) rfl (by decide) (by decide) (by decide) (by decide) (fun T h162 v sf162 X q => ?_)
  obtain ⟨rfl, K162, u162, ku162, cu162, BLn, hu162, ge_u162, mu162⟩ := q
  replace X := W.only X mu162
  have ne_u162_o : u162 ≠ o := BLn.ne
  have ne_dO_u162 : dO ≠ u162 := ne_new hu162 ne_dO_b AO.lt
  have ne_dT_u162 : dT ≠ u162 := ne_new hu162 ne_dT_b AT.lt
  have ne_b0_u162 : b0 ≠ u162 := ne_new hu162 ne_b0_b EJ.lt
  have ne_s155_u162 : s155 ≠ u162 := ne_new hu162 (Ne.symm ne_b_s155) T155.lt
  have ne_r155_u162 : r155 ≠ u162 := ne_new hu162 (Ne.symm ne_b_r155) T155.lt'
  replace S_CS := Sta_keepL S_CS K162 (allS (Pln_exa E) (allS (Pln_exa YA) (all0)))
  replace S_FM := Sta_keepL S_FM K162 (allS (Pln_exa E) (allS (Pln_exa YA) (all0)))
  replace S_FI := Sta_keepL S_FI K162 (allS (Pln_exa E) (allS (Pln_exa YA) (all0)))
  replace S_O := Sta_keepL S_O K162 (allS (Pln_exa E) (allS (Pln_exa YA) (all0)))
  replace S_T := Sta_keepL S_T K162 (allS (Pln_exa E) (allS (Pln_exa YA) (all0)))
  replace O := O.keep K162 (allS ge_o (allS ge_b (all0)))
  replace AO := AO.keep K162 (nin2 ne_dO_o ne_dO_b)
  replace AT := AT.keep K162 (nin2 ne_dT_o ne_dT_b)
  replace EJ := EJ.keep K162
  replace JT := JT.keep K162 (nin2 ne_b0_o ne_b0_b)
  replace E := E.keep K162
  replace YA := YA.keep K162
  replace T155 := T155.keep K162 (nin2 (Ne.symm ne_o_s155) (Ne.symm ne_b_s155)) (nin2 (Ne.symm ne_o_r155) (Ne.symm ne_b_r155))
  replace X_s155 := X_s155.keep K162
  have BL : Bld Z _ o u162 ku162 cu162 ([123] : List Int32) := BLn
  have YA := BL.2.1
  show Go Γ n0 _ T (mkF Γ.m 165 #[.val (.long p0), .second, .val (.int p1), .val (.long p2), .second, .val (.ref b0), .val (.int (0 : Int32)), .val (.int fl), .val (.ref s155), .unset, .unset] [])
  refine k_aload G X at_165 (pc' := 167) rfl rfl rfl ?_
  refine k_callV G X (argsL := []) (rest := []) rfl EJ (w206 hw) (w207 hw) (nf_sel (w209 hw)) (w209 hw) (w208 hw) (w2 hw) (w210 hw) (by decide) (jtext hw b0 o u162 ku162 cu162 ([123] : List Int32) cs h162 n0 _ EJ JT ⟨ge_o, (List.mem_of_getElem? (i := 2) rfl)⟩ ⟨ge_u162, (List.mem_of_getElem? (i := 0) rfl)⟩ O BL S_CS hcs (by decide)) at_167 pd36 rfl (pc' := 170) rfl rfl (wd := 0) rfl (by decide) (by decide) (by decide) (by decide) (fun T h167 v sf167 X q => ?_)
  obtain ⟨s167, r167, k167, rfl, sz_s167, sz_r167, K167, T167, ms167⟩ := q
  replace X := W.only X ms167
  have ne_dO_s167 : dO ≠ s167 := Nat.ne_of_lt (Nat.lt_of_lt_of_le AO.lt sz_s167)
  have ne_dT_s167 : dT ≠ s167 := Nat.ne_of_lt (Nat.lt_of_lt_of_le AT.lt sz_s167)
  have ne_b0_s167 : b0 ≠ s167 := Nat.ne_of_lt (Nat.lt_of_lt_of_le EJ.lt sz_s167)
  have ne_o_s167 : o ≠ s167 := Nat.ne_of_lt (Nat.lt_of_lt_of_le E.lt sz_s167)
  have ne_s155_s167 : s155 ≠ s167 := Nat.ne_of_lt (Nat.lt_of_lt_of_le T155.lt sz_s167)
  have ne_r155_s167 : r155 ≠ s167 := Nat.ne_of_lt (Nat.lt_of_lt_of_le T155.lt' sz_s167)
  have ne_u162_s167 : u162 ≠ s167 := Nat.ne_of_lt (Nat.lt_of_lt_of_le BL.lt' sz_s167)
  have ne_dO_r167 : dO ≠ r167 := Nat.ne_of_lt (Nat.lt_of_lt_of_le AO.lt sz_r167)
  have ne_dT_r167 : dT ≠ r167 := Nat.ne_of_lt (Nat.lt_of_lt_of_le AT.lt sz_r167)
  have ne_b0_r167 : b0 ≠ r167 := Nat.ne_of_lt (Nat.lt_of_lt_of_le EJ.lt sz_r167)
  have ne_o_r167 : o ≠ r167 := Nat.ne_of_lt (Nat.lt_of_lt_of_le E.lt sz_r167)
  have ne_s155_r167 : s155 ≠ r167 := Nat.ne_of_lt (Nat.lt_of_lt_of_le T155.lt sz_r167)
  have ne_r155_r167 : r155 ≠ r167 := Nat.ne_of_lt (Nat.lt_of_lt_of_le T155.lt' sz_r167)
  have ne_u162_r167 : u162 ≠ r167 := Nat.ne_of_lt (Nat.lt_of_lt_of_le BL.lt' sz_r167)
  replace S_CS := Jvm.OwnK.Sta_keep S_CS K167
  replace S_FM := Jvm.OwnK.Sta_keep S_FM K167
  replace S_FI := Jvm.OwnK.Sta_keep S_FI K167
  replace S_O := Jvm.OwnK.Sta_keep S_O K167
  replace S_T := Jvm.OwnK.Sta_keep S_T K167
  replace O := O.keep K167 (all0)
  replace AO := AO.keep K167 nin0
  replace AT := AT.keep K167 nin0
  replace EJ := EJ.keep K167
  replace JT := JT.keep K167 nin0
  replace E := E.keep K167
  replace T155 := T155.keep K167 nin0 nin0
  replace X_s155 := X_s155.keep K167
  replace BL := BL.keep K167 nin0 nin0
  replace YA := YA.keep K167
  have T167 : Str Z _ s167 r167 k167 1 (fun i => ([123] : List Int32).getD i 0) := T167
  have X_s167 := T167.1
  show Go Γ n0 _ T (mkF Γ.m 170 #[.val (.long p0), .second, .val (.int p1), .val (.long p2), .second, .val (.ref b0), .val (.int (0 : Int32)), .val (.int fl), .val (.ref s155), .unset, .unset] [(.ref s167)])
  refine k_astore G X at_170 (pc' := 172) rfl rfl (l' := #[.val (.long p0), .second, .val (.int p1), .val (.long p2), .second, .val (.ref b0), .val (.int (0 : Int32)), .val (.int fl), .val (.ref s155), .val (.ref s167), .unset]) rfl ?_
  refine k_iload G X at_172 (pc' := 174) rfl rfl ?_
  refine k_if_ne G X at_174 (pc' := 185) rfl (by decide) (pc'' := 177) rfl (fun c174 => (absurd c174 (by decide))) (fun c174 => ?_)
  refine k_aload G X at_177 (pc' := 179) rfl rfl rfl ?_
  refine k_ldcH G X (n := 4) (vs := ([123] : List Int32)) (z := 1) (w292 hw) (strAtoms hw) (by decide) ⟨by decide, by decide⟩ (by decide) at_179 (pc' := 181) rfl (by decide) (by decide) (by decide) (by decide) (fun T h179 sk skd k179 E179 Xs Fc Fv Fa hne179 X => ?_)
  replace O := O.ext E179
  replace S_CS := S_CS.ext E179
  replace S_FM := S_FM.ext E179
  replace S_FI := S_FI.ext E179
  replace AO := AO.ext E179
  replace AT := AT.ext E179
  replace S_O := S_O.ext E179
  replace S_T := S_T.ext E179
  replace EJ := EJ.ext E179
  replace JT := JT.ext E179
  replace E := E.ext E179
  replace T155 := T155.ext E179
  replace X_s155 := X_s155.ext E179
  replace BL := BL.ext E179
  replace YA := YA.ext E179
  replace T167 := T167.ext E179
  replace X_s167 := X_s167.ext E179
  have SK : Str Z h179 sk skd k179 1 (fun i => ([123] : List Int32).getD i 0) := ⟨Xs, Fc, Fv, Fa⟩
  have X_sk := Xs
  have ne_s167_sk := (hne179 s167 (List.mem_of_getElem? (i := 0) rfl)).1
  have ne_s167_skd := (hne179 s167 (List.mem_of_getElem? (i := 0) rfl)).2
  have ne_u162_sk := (hne179 u162 (List.mem_of_getElem? (i := 1) rfl)).1
  have ne_u162_skd := (hne179 u162 (List.mem_of_getElem? (i := 1) rfl)).2
  have ne_s155_sk := (hne179 s155 (List.mem_of_getElem? (i := 2) rfl)).1
  have ne_s155_skd := (hne179 s155 (List.mem_of_getElem? (i := 2) rfl)).2
  have ne_o_sk := (hne179 o (List.mem_of_getElem? (i := 3) rfl)).1
  have ne_o_skd := (hne179 o (List.mem_of_getElem? (i := 3) rfl)).2
  have ne_b_sk := (hne179 b (List.mem_of_getElem? (i := 4) rfl)).1
  have ne_b_skd := (hne179 b (List.mem_of_getElem? (i := 4) rfl)).2
  have ne_b0_sk := (hne179 b0 (List.mem_of_getElem? (i := 5) rfl)).1
  have ne_b0_skd := (hne179 b0 (List.mem_of_getElem? (i := 5) rfl)).2
  refine k_callV G X (argsL := [(.ref sk)]) (rest := []) rfl X_s167 (w242 hw) (w243 hw) (nf_sel (w245 hw)) (w245 hw) (w244 hw) (w29 hw) (w246 hw) (by decide) (str_eq hw s167 sk r167 skd k167 k179 1 1 cs _ _ h179 n0 _ T167 SK ne_s167_sk S_CS hcs) at_181 pd39 rfl (pc' := 184) rfl rfl (wd := 0) rfl (by decide) (by decide) (by decide) (by decide) (fun T h181 v sf181 X q => ?_)
  replace X := W.drop X
  obtain ⟨r, rfl, hr, hi, e181⟩ := q
  replace X := X.eq e181
  obtain rfl : (1 : Int32) = r := (hi.mpr ⟨rfl, fun i _ => rfl⟩).symm
  show Go Γ n0 _ T (mkF Γ.m 184 #[.val (.long p0), .second, .val (.int p1), .val (.long p2), .second, .val (.ref b0), .val (.int (0 : Int32)), .val (.int fl), .val (.ref s155), .val (.ref s167), .unset] [(.int (1 : Int32))])
  refine k_retb G X at_184 (t := .boolean) rfl (by simp) rfl ?_ (by decide) (by decide)
  rfl
set_option maxRecDepth 65536 in
set_option maxHeartbeats 40000000 in
theorem md1 {Z : State} {a0 : Array Value} (hw : HW a0 Z) (p0 : Int64) (p1 cs : Int32) (p2 : Int64) (fm fi : Value) (dO dT : Addr) (kO kT : ClassId) (gO gT : Nat → Int32) (b0 o b : Addr) (k : ClassId) (nn : Nat) (fl : Int32) (h0 h9 : Heap) (n0 : Nat) (O : Old Z n0 h9) (S_CS : Sta Z h9 "java/lang/String" "COMPACT_STRINGS" "Z" (.int cs)) (hcs : cs ≠ 0) (S_FM : Sta Z h9 "jdk/internal/util/Preconditions" "SIOOBE_FORMATTER" "Ljava/util/function/BiFunction;" fm) (hfm : fm.isRef = true) (S_FI : Sta Z h9 "jdk/internal/util/Preconditions" "IOOBE_FORMATTER" "Ljava/util/function/BiFunction;" fi) (hfi : fi.isRef = true) (AO : Arf Z h9 dO kO .byte 100 (fun i => .int (gO i))) (AT : Arf Z h9 dT kT .byte 100 (fun i => .int (gT i))) (S_O : Sta Z h9 "java/lang/Integer" "DigitOnes" "[B" (.ref dO)) (S_T : Sta Z h9 "java/lang/Integer" "DigitTens" "[B" (.ref dT)) (hO : ∀ i, i < 100 → dig (gO i)) (hT : ∀ i, i < 100 → dig (gT i)) (EJ : Exa Z h9 b0 "com/example/half_message_commit/halfmessagecommit/protocol/JsonWriter") (JT : Fld Z h9 b0 "com/example/half_message_commit/halfmessagecommit/protocol/JsonWriter" "text" "Ljava/lang/StringBuilder;" (.ref o)) (BL : Bld Z h9 o b k nn []) (ge_b0 : n0 ≤ b0) (ge_o : n0 ≤ o) (ge_b : n0 ≤ b) (ne_b_o : b ≠ o) (ne_b0_b : b0 ≠ b) (ne_b0_o : b0 ≠ o) (ne_dO_b : dO ≠ b) (ne_dO_b0 : dO ≠ b0) (ne_dO_o : dO ≠ o) (ne_dT_b : dT ≠ b) (ne_dT_b0 : dT ≠ b0) (ne_dT_o : dT ≠ o) (hfl : fl = 0 ∨ fl = 1) (Γ : Cx) (T : State) (G : Ctx Γ Z consts_1 x.cls code maxLocals ret x.name room_1 h0) (X : W Γ n0 T h9 3 65540 (b :: b0 :: [])) : Go Γ n0 (fun v h sf => v = some (.int 1)) T (mkF Γ.m 38 #[.val (.long p0), .second, .val (.int p1), .val (.long p2), .second, .val (.ref b0), .val (.int (1 : Int32)), .val (.int fl), .unset, .unset, .unset] []) := by
  have E := BL.1
  have YA := BL.2.1
  refine k_iload G X at_38 (pc' := 40) rfl rfl ?_
  refine k_if_eq G X at_40 (pc' := 48) rfl (by decide) (pc'' := 43) rfl (fun c40 => (absurd c40 (by decide))) (fun c40 => ?_)
  refine k_aload G X at_43 (pc' := 45) rfl rfl rfl ?_
  replace X := W.addE G X E (by decide) (by decide)
  refine k_callV G X (argsL := []) (rest := []) rfl EJ (w38 hw) (w39 hw) (nf_sel (w41 hw)) (w41 hw) (w40 hw) (w2 hw) (w42 hw) (by decide) (boE hw b0 o b k nn ([] : List Int32) cs  h9 n0 _ EJ JT ⟨ge_o, (List.mem_of_getElem? (i := 0) rfl)⟩ ⟨ge_b, (List.mem_of_getElem? (i := 1) rfl)⟩ O BL S_CS hcs rfl) at_45 pd31 rfl (pc' := 48) rfl rfl (wd := 0) rfl (by decide) (by decide) (by decide) (by decide) (fun T h45 v sf45 X q => ?_)
  obtain ⟨rfl, K45, u45, ku45, cu45, BLn, hu45, ge_u45, mu45⟩ := q
  replace X := W.only X mu45
  have ne_u45_o : u45 ≠ o := BLn.ne
  have ne_dO_u45 : dO ≠ u45 := ne_new hu45 ne_dO_b AO.lt
  have ne_dT_u45 : dT ≠ u45 := ne_new hu45 ne_dT_b AT.lt
  have ne_b0_u45 : b0 ≠ u45 := ne_new hu45 ne_b0_b EJ.lt
  replace S_CS := Sta_keepL S_CS K45 (allS (Pln_exa E) (allS (Pln_exa YA) (all0)))
  replace S_FM := Sta_keepL S_FM K45 (allS (Pln_exa E) (allS (Pln_exa YA) (all0)))
  replace S_FI := Sta_keepL S_FI K45 (allS (Pln_exa E) (allS (Pln_exa YA) (all0)))
  replace S_O := Sta_keepL S_O K45 (allS (Pln_exa E) (allS (Pln_exa YA) (all0)))
  replace S_T := Sta_keepL S_T K45 (allS (Pln_exa E) (allS (Pln_exa YA) (all0)))
  replace O := O.keep K45 (allS ge_o (allS ge_b (all0)))
  replace AO := AO.keep K45 (nin2 ne_dO_o ne_dO_b)
  replace AT := AT.keep K45 (nin2 ne_dT_o ne_dT_b)
  replace EJ := EJ.keep K45
  replace JT := JT.keep K45 (nin2 ne_b0_o ne_b0_b)
  replace E := E.keep K45
  replace YA := YA.keep K45
  have BL : Bld Z _ o u45 ku45 cu45 ([123] : List Int32) := BLn
  have YA := BL.2.1
  show Go Γ n0 _ T (mkF Γ.m 48 #[.val (.long p0), .second, .val (.int p1), .val (.long p2), .second, .val (.ref b0), .val (.int (1 : Int32)), .val (.int fl), .unset, .unset, .unset] [])
  refine k_iload G X at_48 (pc' := 50) rfl rfl ?_
  refine k_iconst G X at_50 (pc' := 51) rfl (z := (2 : Int32)) (by decide) ?_
  refine k_icmp_ne G X at_51 (pc' := 64) rfl (by decide) (pc'' := 54) rfl (fun c51 => ?_) (fun c51 => (absurd c51 (by decide)))
  refine k_iload G X at_64 (pc' := 66) rfl rfl ?_
  refine k_iconst G X at_66 (pc' := 67) rfl (z := (3 : Int32)) (by decide) ?_
  refine k_icmp_ne G X at_67 (pc' := 78) rfl (by decide) (pc'' := 70) rfl (fun c67 => ?_) (fun c67 => (absurd c67 (by decide)))
  refine k_iload G X at_78 (pc' := 80) rfl rfl ?_
  refine k_iconst G X at_80 (pc' := 81) rfl (z := (4 : Int32)) (by decide) ?_
  refine k_icmp_ne G X at_81 (pc' := 99) rfl (by decide) (pc'' := 84) rfl (fun c81 => ?_) (fun c81 => (absurd c81 (by decide)))
  refine k_iload G X at_99 (pc' := 101) rfl rfl ?_
  refine k_iconst G X at_101 (pc' := 102) rfl (z := (5 : Int32)) (by decide) ?_
  refine k_icmp_ne G X at_102 (pc' := 117) rfl (by decide) (pc'' := 105) rfl (fun c102 => ?_) (fun c102 => (absurd c102 (by decide)))
  refine k_iload G X at_117 (pc' := 119) rfl rfl ?_
  refine k_bipush G X at_119 (pc' := 121) rfl (z := (6 : Int32)) (by decide) ?_
  refine k_icmp_ne G X at_121 (pc' := 135) rfl (by decide) (pc'' := 124) rfl (fun c121 => ?_) (fun c121 => (absurd c121 (by decide)))
  refine k_iload G X at_135 (pc' := 137) rfl rfl ?_
  refine k_bipush G X at_137 (pc' := 139) rfl (z := (7 : Int32)) (by decide) ?_
  refine k_icmp_ne G X at_139 (pc' := 153) rfl (by decide) (pc'' := 142) rfl (fun c139 => ?_) (fun c139 => (absurd c139 (by decide)))
  refine k_aload G X at_153 (pc' := 155) rfl rfl rfl ?_
  refine k_callV G X (argsL := []) (rest := []) rfl EJ (w206 hw) (w207 hw) (nf_sel (w209 hw)) (w209 hw) (w208 hw) (w2 hw) (w210 hw) (by decide) (jtext hw b0 o u45 ku45 cu45 ([123] : List Int32) cs h45 n0 _ EJ JT ⟨ge_o, (List.mem_of_getElem? (i := 1) rfl)⟩ ⟨ge_u45, (List.mem_of_getElem? (i := 0) rfl)⟩ O BL S_CS hcs (by decide)) at_155 pd36 rfl (pc' := 158) rfl rfl (wd := 0) rfl (by decide) (by decide) (by decide) (by decide) (fun T h155 v sf155 X q => ?_)
  obtain ⟨s155, r155, k155, rfl, sz_s155, sz_r155, K155, T155, ms155⟩ := q
  replace X := W.only X ms155
  have ne_dO_s155 : dO ≠ s155 := Nat.ne_of_lt (Nat.lt_of_lt_of_le AO.lt sz_s155)
  have ne_dT_s155 : dT ≠ s155 := Nat.ne_of_lt (Nat.lt_of_lt_of_le AT.lt sz_s155)
  have ne_b0_s155 : b0 ≠ s155 := Nat.ne_of_lt (Nat.lt_of_lt_of_le EJ.lt sz_s155)
  have ne_o_s155 : o ≠ s155 := Nat.ne_of_lt (Nat.lt_of_lt_of_le E.lt sz_s155)
  have ne_u45_s155 : u45 ≠ s155 := Nat.ne_of_lt (Nat.lt_of_lt_of_le BL.lt' sz_s155)
  have ne_dO_r155 : dO ≠ r155 := Nat.ne_of_lt (Nat.lt_of_lt_of_le AO.lt sz_r155)
  have ne_dT_r155 : dT ≠ r155 := Nat.ne_of_lt (Nat.lt_of_lt_of_le AT.lt sz_r155)
  have ne_b0_r155 : b0 ≠ r155 := Nat.ne_of_lt (Nat.lt_of_lt_of_le EJ.lt sz_r155)
  have ne_o_r155 : o ≠ r155 := Nat.ne_of_lt (Nat.lt_of_lt_of_le E.lt sz_r155)
  have ne_u45_r155 : u45 ≠ r155 := Nat.ne_of_lt (Nat.lt_of_lt_of_le BL.lt' sz_r155)
  replace S_CS := Jvm.OwnK.Sta_keep S_CS K155
  replace S_FM := Jvm.OwnK.Sta_keep S_FM K155
  replace S_FI := Jvm.OwnK.Sta_keep S_FI K155
  replace S_O := Jvm.OwnK.Sta_keep S_O K155
  replace S_T := Jvm.OwnK.Sta_keep S_T K155
  replace O := O.keep K155 (all0)
  replace AO := AO.keep K155 nin0
  replace AT := AT.keep K155 nin0
  replace EJ := EJ.keep K155
  replace JT := JT.keep K155 nin0
  replace E := E.keep K155
  replace BL := BL.keep K155 nin0 nin0
  replace YA := YA.keep K155
  have T155 : Str Z _ s155 r155 k155 1 (fun i => ([123] : List Int32).getD i 0) := T155
  have X_s155 := T155.1
  show Go Γ n0 _ T (mkF Γ.m 158 #[.val (.long p0), .second, .val (.int p1), .val (.long p2), .second, .val (.ref b0), .val (.int (1 : Int32)), .val (.int fl), .unset, .unset, .unset] [(.ref s155)])
  refine k_astore G X at_158 (pc' := 160) rfl rfl (l' := #[.val (.long p0), .second, .val (.int p1), .val (.long p2), .second, .val (.ref b0), .val (.int (1 : Int32)), .val (.int fl), .val (.ref s155), .unset, .unset]) rfl ?_
  refine k_aload G X at_160 (pc' := 162) rfl rfl rfl ?_
  refine k_callV G X (argsL := []) (rest := []) rfl EJ (w38 hw) (w39 hw) (nf_sel (w41 hw)) (w41 hw) (w40 hw) (w2 hw) (w42 hw) (by decide) (boN hw b0 o u45 ku45 cu45 ([123] : List Int32) cs fm 0 123 h155 n0 _ EJ JT ⟨ge_o, (List.mem_of_getElem? (i := 2) rfl)⟩ ⟨ge_u45, (List.mem_of_getElem? (i := 1) rfl)⟩ O BL S_CS hcs S_FM hfm rfl rfl (by decide) (by decide) (by decide) (by decide)) at_162 pd31 rfl (pc' := 165) rfl rfl (wd := 0) rfl (by decide) (by decide) (by decide) (by decide) (fun T h162 v sf162 X q => ?_)
  obtain ⟨rfl, K162, u162, ku162, cu162, BLn, hu162, ge_u162, mu162⟩ := q
  replace X := W.only X mu162
  have ne_u162_o : u162 ≠ o := BLn.ne
  have ne_dO_u162 : dO ≠ u162 := ne_new hu162 ne_dO_u45 AO.lt
  have ne_dT_u162 : dT ≠ u162 := ne_new hu162 ne_dT_u45 AT.lt
  have ne_b0_u162 : b0 ≠ u162 := ne_new hu162 ne_b0_u45 EJ.lt
  have ne_s155_u162 : s155 ≠ u162 := ne_new hu162 (Ne.symm ne_u45_s155) T155.lt
  have ne_r155_u162 : r155 ≠ u162 := ne_new hu162 (Ne.symm ne_u45_r155) T155.lt'
  replace S_CS := Sta_keepL S_CS K162 (allS (Pln_exa E) (allS (Pln_exa YA) (all0)))
  replace S_FM := Sta_keepL S_FM K162 (allS (Pln_exa E) (allS (Pln_exa YA) (all0)))
  replace S_FI := Sta_keepL S_FI K162 (allS (Pln_exa E) (allS (Pln_exa YA) (all0)))
  replace S_O := Sta_keepL S_O K162 (allS (Pln_exa E) (allS (Pln_exa YA) (all0)))
  replace S_T := Sta_keepL S_T K162 (allS (Pln_exa E) (allS (Pln_exa YA) (all0)))
  replace O := O.keep K162 (allS ge_o (allS ge_u45 (all0)))
  replace AO := AO.keep K162 (nin2 ne_dO_o ne_dO_u45)
  replace AT := AT.keep K162 (nin2 ne_dT_o ne_dT_u45)
  replace EJ := EJ.keep K162
  replace JT := JT.keep K162 (nin2 ne_b0_o ne_b0_u45)
  replace E := E.keep K162
  replace YA := YA.keep K162
  replace T155 := T155.keep K162 (nin2 (Ne.symm ne_o_s155) (Ne.symm ne_u45_s155)) (nin2 (Ne.symm ne_o_r155) (Ne.symm ne_u45_r155))
  replace X_s155 := X_s155.keep K162
  have BL : Bld Z _ o u162 ku162 cu162 ([123, 123] : List Int32) := BLn
  have YA := BL.2.1
  show Go Γ n0 _ T (mkF Γ.m 165 #[.val (.long p0), .second, .val (.int p1), .val (.long p2), .second, .val (.ref b0), .val (.int (1 : Int32)), .val (.int fl), .val (.ref s155), .unset, .unset] [])
  refine k_aload G X at_165 (pc' := 167) rfl rfl rfl ?_
  refine k_callV G X (argsL := []) (rest := []) rfl EJ (w206 hw) (w207 hw) (nf_sel (w209 hw)) (w209 hw) (w208 hw) (w2 hw) (w210 hw) (by decide) (jtext hw b0 o u162 ku162 cu162 ([123, 123] : List Int32) cs h162 n0 _ EJ JT ⟨ge_o, (List.mem_of_getElem? (i := 3) rfl)⟩ ⟨ge_u162, (List.mem_of_getElem? (i := 0) rfl)⟩ O BL S_CS hcs (by decide)) at_167 pd36 rfl (pc' := 170) rfl rfl (wd := 0) rfl (by decide) (by decide) (by decide) (by decide) (fun T h167 v sf167 X q => ?_)
  obtain ⟨s167, r167, k167, rfl, sz_s167, sz_r167, K167, T167, ms167⟩ := q
  replace X := W.only X ms167
  have ne_dO_s167 : dO ≠ s167 := Nat.ne_of_lt (Nat.lt_of_lt_of_le AO.lt sz_s167)
  have ne_dT_s167 : dT ≠ s167 := Nat.ne_of_lt (Nat.lt_of_lt_of_le AT.lt sz_s167)
  have ne_b0_s167 : b0 ≠ s167 := Nat.ne_of_lt (Nat.lt_of_lt_of_le EJ.lt sz_s167)
  have ne_o_s167 : o ≠ s167 := Nat.ne_of_lt (Nat.lt_of_lt_of_le E.lt sz_s167)
  have ne_s155_s167 : s155 ≠ s167 := Nat.ne_of_lt (Nat.lt_of_lt_of_le T155.lt sz_s167)
  have ne_r155_s167 : r155 ≠ s167 := Nat.ne_of_lt (Nat.lt_of_lt_of_le T155.lt' sz_s167)
  have ne_u162_s167 : u162 ≠ s167 := Nat.ne_of_lt (Nat.lt_of_lt_of_le BL.lt' sz_s167)
  have ne_dO_r167 : dO ≠ r167 := Nat.ne_of_lt (Nat.lt_of_lt_of_le AO.lt sz_r167)
  have ne_dT_r167 : dT ≠ r167 := Nat.ne_of_lt (Nat.lt_of_lt_of_le AT.lt sz_r167)
  have ne_b0_r167 : b0 ≠ r167 := Nat.ne_of_lt (Nat.lt_of_lt_of_le EJ.lt sz_r167)
  have ne_o_r167 : o ≠ r167 := Nat.ne_of_lt (Nat.lt_of_lt_of_le E.lt sz_r167)
  have ne_s155_r167 : s155 ≠ r167 := Nat.ne_of_lt (Nat.lt_of_lt_of_le T155.lt sz_r167)
  have ne_r155_r167 : r155 ≠ r167 := Nat.ne_of_lt (Nat.lt_of_lt_of_le T155.lt' sz_r167)
  have ne_u162_r167 : u162 ≠ r167 := Nat.ne_of_lt (Nat.lt_of_lt_of_le BL.lt' sz_r167)
  replace S_CS := Jvm.OwnK.Sta_keep S_CS K167
  replace S_FM := Jvm.OwnK.Sta_keep S_FM K167
  replace S_FI := Jvm.OwnK.Sta_keep S_FI K167
  replace S_O := Jvm.OwnK.Sta_keep S_O K167
  replace S_T := Jvm.OwnK.Sta_keep S_T K167
  replace O := O.keep K167 (all0)
  replace AO := AO.keep K167 nin0
  replace AT := AT.keep K167 nin0
  replace EJ := EJ.keep K167
  replace JT := JT.keep K167 nin0
  replace E := E.keep K167
  replace T155 := T155.keep K167 nin0 nin0
  replace X_s155 := X_s155.keep K167
  replace BL := BL.keep K167 nin0 nin0
  replace YA := YA.keep K167
  have T167 : Str Z _ s167 r167 k167 2 (fun i => ([123, 123] : List Int32).getD i 0) := T167
  have X_s167 := T167.1
  show Go Γ n0 _ T (mkF Γ.m 170 #[.val (.long p0), .second, .val (.int p1), .val (.long p2), .second, .val (.ref b0), .val (.int (1 : Int32)), .val (.int fl), .val (.ref s155), .unset, .unset] [(.ref s167)])
  refine k_astore G X at_170 (pc' := 172) rfl rfl (l' := #[.val (.long p0), .second, .val (.int p1), .val (.long p2), .second, .val (.ref b0), .val (.int (1 : Int32)), .val (.int fl), .val (.ref s155), .val (.ref s167), .unset]) rfl ?_
  refine k_iload G X at_172 (pc' := 174) rfl rfl ?_
  refine k_if_ne G X at_174 (pc' := 185) rfl (by decide) (pc'' := 177) rfl (fun c174 => ?_) (fun c174 => (absurd c174 (by decide)))
  refine k_iload G X at_185 (pc' := 187) rfl rfl ?_
  refine k_iconst G X at_187 (pc' := 188) rfl (z := (1 : Int32)) (by decide) ?_
  refine k_icmp_ne G X at_188 (pc' := 199) rfl (by decide) (pc'' := 191) rfl (fun c188 => (absurd c188 (by decide))) (fun c188 => ?_)
  refine k_aload G X at_191 (pc' := 193) rfl rfl rfl ?_
  refine k_ldcH G X (n := 8) (vs := ([123, 123] : List Int32)) (z := 2) (w285 hw) (strAtoms hw) (by decide) ⟨by decide, by decide⟩ (by decide) at_193 (pc' := 195) rfl (by decide) (by decide) (by decide) (by decide) (fun T h193 sk skd k193 E193 Xs Fc Fv Fa hne193 X => ?_)
  replace O := O.ext E193
  replace S_CS := S_CS.ext E193
  replace S_FM := S_FM.ext E193
  replace S_FI := S_FI.ext E193
  replace AO := AO.ext E193
  replace AT := AT.ext E193
  replace S_O := S_O.ext E193
  replace S_T := S_T.ext E193
  replace EJ := EJ.ext E193
  replace JT := JT.ext E193
  replace E := E.ext E193
  replace T155 := T155.ext E193
  replace X_s155 := X_s155.ext E193
  replace BL := BL.ext E193
  replace YA := YA.ext E193
  replace T167 := T167.ext E193
  replace X_s167 := X_s167.ext E193
  have SK : Str Z h193 sk skd k193 2 (fun i => ([123, 123] : List Int32).getD i 0) := ⟨Xs, Fc, Fv, Fa⟩
  have X_sk := Xs
  have ne_s167_sk := (hne193 s167 (List.mem_of_getElem? (i := 0) rfl)).1
  have ne_s167_skd := (hne193 s167 (List.mem_of_getElem? (i := 0) rfl)).2
  have ne_u162_sk := (hne193 u162 (List.mem_of_getElem? (i := 1) rfl)).1
  have ne_u162_skd := (hne193 u162 (List.mem_of_getElem? (i := 1) rfl)).2
  have ne_s155_sk := (hne193 s155 (List.mem_of_getElem? (i := 2) rfl)).1
  have ne_s155_skd := (hne193 s155 (List.mem_of_getElem? (i := 2) rfl)).2
  have ne_u45_sk := (hne193 u45 (List.mem_of_getElem? (i := 3) rfl)).1
  have ne_u45_skd := (hne193 u45 (List.mem_of_getElem? (i := 3) rfl)).2
  have ne_o_sk := (hne193 o (List.mem_of_getElem? (i := 4) rfl)).1
  have ne_o_skd := (hne193 o (List.mem_of_getElem? (i := 4) rfl)).2
  have ne_b_sk := (hne193 b (List.mem_of_getElem? (i := 5) rfl)).1
  have ne_b_skd := (hne193 b (List.mem_of_getElem? (i := 5) rfl)).2
  have ne_b0_sk := (hne193 b0 (List.mem_of_getElem? (i := 6) rfl)).1
  have ne_b0_skd := (hne193 b0 (List.mem_of_getElem? (i := 6) rfl)).2
  refine k_callV G X (argsL := [(.ref sk)]) (rest := []) rfl X_s167 (w242 hw) (w243 hw) (nf_sel (w245 hw)) (w245 hw) (w244 hw) (w29 hw) (w246 hw) (by decide) (str_eq hw s167 sk r167 skd k167 k193 2 2 cs _ _ h193 n0 _ T167 SK ne_s167_sk S_CS hcs) at_195 pd39 rfl (pc' := 198) rfl rfl (wd := 0) rfl (by decide) (by decide) (by decide) (by decide) (fun T h195 v sf195 X q => ?_)
  replace X := W.drop X
  obtain ⟨r, rfl, hr, hi, e195⟩ := q
  replace X := X.eq e195
  obtain rfl : (1 : Int32) = r := (hi.mpr ⟨rfl, fun i _ => rfl⟩).symm
  show Go Γ n0 _ T (mkF Γ.m 198 #[.val (.long p0), .second, .val (.int p1), .val (.long p2), .second, .val (.ref b0), .val (.int (1 : Int32)), .val (.int fl), .val (.ref s155), .val (.ref s167), .unset] [(.int (1 : Int32))])
  refine k_retb G X at_198 (t := .boolean) rfl (by simp) rfl ?_ (by decide) (by decide)
  rfl
set_option maxRecDepth 65536 in
set_option maxHeartbeats 40000000 in
theorem md2 {Z : State} {a0 : Array Value} (hw : HW a0 Z) (p0 : Int64) (p1 cs : Int32) (p2 : Int64) (fm fi : Value) (dO dT : Addr) (kO kT : ClassId) (gO gT : Nat → Int32) (b0 o b : Addr) (k : ClassId) (nn : Nat) (fl : Int32) (h0 h9 : Heap) (n0 : Nat) (O : Old Z n0 h9) (S_CS : Sta Z h9 "java/lang/String" "COMPACT_STRINGS" "Z" (.int cs)) (hcs : cs ≠ 0) (S_FM : Sta Z h9 "jdk/internal/util/Preconditions" "SIOOBE_FORMATTER" "Ljava/util/function/BiFunction;" fm) (hfm : fm.isRef = true) (S_FI : Sta Z h9 "jdk/internal/util/Preconditions" "IOOBE_FORMATTER" "Ljava/util/function/BiFunction;" fi) (hfi : fi.isRef = true) (AO : Arf Z h9 dO kO .byte 100 (fun i => .int (gO i))) (AT : Arf Z h9 dT kT .byte 100 (fun i => .int (gT i))) (S_O : Sta Z h9 "java/lang/Integer" "DigitOnes" "[B" (.ref dO)) (S_T : Sta Z h9 "java/lang/Integer" "DigitTens" "[B" (.ref dT)) (hO : ∀ i, i < 100 → dig (gO i)) (hT : ∀ i, i < 100 → dig (gT i)) (EJ : Exa Z h9 b0 "com/example/half_message_commit/halfmessagecommit/protocol/JsonWriter") (JT : Fld Z h9 b0 "com/example/half_message_commit/halfmessagecommit/protocol/JsonWriter" "text" "Ljava/lang/StringBuilder;" (.ref o)) (BL : Bld Z h9 o b k nn []) (ge_b0 : n0 ≤ b0) (ge_o : n0 ≤ o) (ge_b : n0 ≤ b) (ne_b_o : b ≠ o) (ne_b0_b : b0 ≠ b) (ne_b0_o : b0 ≠ o) (ne_dO_b : dO ≠ b) (ne_dO_b0 : dO ≠ b0) (ne_dO_o : dO ≠ o) (ne_dT_b : dT ≠ b) (ne_dT_b0 : dT ≠ b0) (ne_dT_o : dT ≠ o) (hfl : fl = 0 ∨ fl = 1) (Γ : Cx) (T : State) (G : Ctx Γ Z consts_1 x.cls code maxLocals ret x.name room_1 h0) (X : W Γ n0 T h9 3 65540 (b :: b0 :: [])) : Go Γ n0 (fun v h sf => v = some (.int 1)) T (mkF Γ.m 38 #[.val (.long p0), .second, .val (.int p1), .val (.long p2), .second, .val (.ref b0), .val (.int (2 : Int32)), .val (.int fl), .unset, .unset, .unset] []) := by
  have E := BL.1
  have YA := BL.2.1
  refine k_iload G X at_38 (pc' := 40) rfl rfl ?_
  refine k_if_eq G X at_40 (pc' := 48) rfl (by decide) (pc'' := 43) rfl (fun c40 => (absurd c40 (by decide))) (fun c40 => ?_)
  refine k_aload G X at_43 (pc' := 45) rfl rfl rfl ?_
  replace X := W.addE G X E (by decide) (by decide)
  refine k_callV G X (argsL := []) (rest := []) rfl EJ (w38 hw) (w39 hw) (nf_sel (w41 hw)) (w41 hw) (w40 hw) (w2 hw) (w42 hw) (by decide) (boE hw b0 o b k nn ([] : List Int32) cs  h9 n0 _ EJ JT ⟨ge_o, (List.mem_of_getElem? (i := 0) rfl)⟩ ⟨ge_b, (List.mem_of_getElem? (i := 1) rfl)⟩ O BL S_CS hcs rfl) at_45 pd31 rfl (pc' := 48) rfl rfl (wd := 0) rfl (by decide) (by decide) (by decide) (by decide) (fun T h45 v sf45 X q => ?_)
  obtain ⟨rfl, K45, u45, ku45, cu45, BLn, hu45, ge_u45, mu45⟩ := q
  replace X := W.only X mu45
  have ne_u45_o : u45 ≠ o := BLn.ne
  have ne_dO_u45 : dO ≠ u45 := ne_new hu45 ne_dO_b AO.lt
  have ne_dT_u45 : dT ≠ u45 := ne_new hu45 ne_dT_b AT.lt
  have ne_b0_u45 : b0 ≠ u45 := ne_new hu45 ne_b0_b EJ.lt
  replace S_CS := Sta_keepL S_CS K45 (allS (Pln_exa E) (allS (Pln_exa YA) (all0)))
  replace S_FM := Sta_keepL S_FM K45 (allS (Pln_exa E) (allS (Pln_exa YA) (all0)))
  replace S_FI := Sta_keepL S_FI K45 (allS (Pln_exa E) (allS (Pln_exa YA) (all0)))
  replace S_O := Sta_keepL S_O K45 (allS (Pln_exa E) (allS (Pln_exa YA) (all0)))
  replace S_T := Sta_keepL S_T K45 (allS (Pln_exa E) (allS (Pln_exa YA) (all0)))
  replace O := O.keep K45 (allS ge_o (allS ge_b (all0)))
  replace AO := AO.keep K45 (nin2 ne_dO_o ne_dO_b)
  replace AT := AT.keep K45 (nin2 ne_dT_o ne_dT_b)
  replace EJ := EJ.keep K45
  replace JT := JT.keep K45 (nin2 ne_b0_o ne_b0_b)
  replace E := E.keep K45
  replace YA := YA.keep K45
  have BL : Bld Z _ o u45 ku45 cu45 ([123] : List Int32) := BLn
  have YA := BL.2.1
  show Go Γ n0 _ T (mkF Γ.m 48 #[.val (.long p0), .second, .val (.int p1), .val (.long p2), .second, .val (.ref b0), .val (.int (2 : Int32)), .val (.int fl), .unset, .unset, .unset] [])
  refine k_iload G X at_48 (pc' := 50) rfl rfl ?_
  refine k_iconst G X at_50 (pc' := 51) rfl (z := (2 : Int32)) (by decide) ?_
  refine k_icmp_ne G X at_51 (pc' := 64) rfl (by decide) (pc'' := 54) rfl (fun c51 => (absurd c51 (by decide))) (fun c51 => ?_)
  refine k_aload G X at_54 (pc' := 56) rfl rfl rfl ?_
  refine k_ldcH G X (n := 4) (vs := ([97] : List Int32)) (z := 1) (w82 hw) (strAtoms hw) (by decide) ⟨by decide, by decide⟩ (by decide) at_56 (pc' := 58) rfl (by decide) (by decide) (by decide) (by decide) (fun T h56 sa sad k56 E56 Xs Fc Fv Fa hne56 X => ?_)
  replace O := O.ext E56
  replace S_CS := S_CS.ext E56
  replace S_FM := S_FM.ext E56
  replace S_FI := S_FI.ext E56
  replace AO := AO.ext E56
  replace AT := AT.ext E56
  replace S_O := S_O.ext E56
  replace S_T := S_T.ext E56
  replace EJ := EJ.ext E56
  replace JT := JT.ext E56
  replace E := E.ext E56
  replace BL := BL.ext E56
  replace YA := YA.ext E56
  have SA1 : Str Z h56 sa sad k56 1 (fun i => ([97] : List Int32).getD i 0) := ⟨Xs, Fc, Fv, Fa⟩
  have X_sa := Xs
  have ne_u45_sa := (hne56 u45 (List.mem_of_getElem? (i := 0) rfl)).1
  have ne_u45_sad := (hne56 u45 (List.mem_of_getElem? (i := 0) rfl)).2
  have ne_o_sa := (hne56 o (List.mem_of_getElem? (i := 1) rfl)).1
  have ne_o_sad := (hne56 o (List.mem_of_getElem? (i := 1) rfl)).2
  have ne_b_sa := (hne56 b (List.mem_of_getElem? (i := 2) rfl)).1
  have ne_b_sad := (hne56 b (List.mem_of_getElem? (i := 2) rfl)).2
  have ne_b0_sa := (hne56 b0 (List.mem_of_getElem? (i := 3) rfl)).1
  have ne_b0_sad := (hne56 b0 (List.mem_of_getElem? (i := 3) rfl)).2
  refine k_callV G X (argsL := [(.ref sa)]) (rest := []) rfl EJ (w88 hw) (w89 hw) (nf_sel (w91 hw)) (w91 hw) (w90 hw) (w2 hw) (w92 hw) (by decide) (bar hw b0 o u45 ku45 cu45 ([123] : List Int32) cs fm 0 123 sa sad k56 (fun i => ([97] : List Int32).getD i 0) fi h56 n0 _ EJ JT ⟨ge_o, (List.mem_of_getElem? (i := 1) rfl)⟩ ⟨ge_u45, (List.mem_of_getElem? (i := 0) rfl)⟩ O BL S_CS hcs S_FM hfm rfl rfl (by decide) (by decide) (by decide) SA1 rfl (Ne.symm ne_o_sa) (Ne.symm ne_o_sad) (Ne.symm ne_u45_sa) (Ne.symm ne_u45_sad) S_FI hfi (by decide)) at_58 pd21 rfl (pc' := 61) rfl rfl (wd := 0) rfl (by decide) (by decide) (by decide) (by decide) (fun T h58 v sf58 X q => ?_)
  obtain ⟨rfl, K58, u58, ku58, cu58, BLn, hu58, ge_u58, mu58⟩ := q
  replace X := W.only X mu58
  have ne_u58_o : u58 ≠ o := BLn.ne
  have ne_dO_u58 : dO ≠ u58 := ne_new hu58 ne_dO_u45 AO.lt
  have ne_dT_u58 : dT ≠ u58 := ne_new hu58 ne_dT_u45 AT.lt
  have ne_b0_u58 : b0 ≠ u58 := ne_new hu58 ne_b0_u45 EJ.lt
  have ne_sa_u58 : sa ≠ u58 := ne_new hu58 (Ne.symm ne_u45_sa) X_sa.lt
  have ne_sad_u58 : sad ≠ u58 := ne_new hu58 (Ne.symm ne_u45_sad) SA1.lt'
  replace S_CS := Sta_keepL S_CS K58 (allS (Pln_exa E) (allS (Pln_exa YA) (all0)))
  replace S_FM := Sta_keepL S_FM K58 (allS (Pln_exa E) (allS (Pln_exa YA) (all0)))
  replace S_FI := Sta_keepL S_FI K58 (allS (Pln_exa E) (allS (Pln_exa YA) (all0)))
  replace S_O := Sta_keepL S_O K58 (allS (Pln_exa E) (allS (Pln_exa YA) (all0)))
  replace S_T := Sta_keepL S_T K58 (allS (Pln_exa E) (allS (Pln_exa YA) (all0)))
  replace O := O.keep K58 (allS ge_o (allS ge_u45 (all0)))
  replace AO := AO.keep K58 (nin2 ne_dO_o ne_dO_u45)
  replace AT := AT.keep K58 (nin2 ne_dT_o ne_dT_u45)
  replace EJ := EJ.keep K58
  replace JT := JT.keep K58 (nin2 ne_b0_o ne_b0_u45)
  replace E := E.keep K58
  replace YA := YA.keep K58
  replace X_sa := X_sa.keep K58
  replace SA1 := SA1.keep K58 (nin2 (Ne.symm ne_o_sa) (Ne.symm ne_u45_sa)) (nin2 (Ne.symm ne_o_sad) (Ne.symm ne_u45_sad))
  have BL : Bld Z _ o u58 ku58 cu58 ([123, 34, 97, 34, 58, 91] : List Int32) := BLn
  have YA := BL.2.1
  show Go Γ n0 _ T (mkF Γ.m 61 #[.val (.long p0), .second, .val (.int p1), .val (.long p2), .second, .val (.ref b0), .val (.int (2 : Int32)), .val (.int fl), .unset, .unset, .unset] [])
  refine k_goto G X at_61 (by decide) (pc' := 153) rfl ?_
  refine k_aload G X at_153 (pc' := 155) rfl rfl rfl ?_
  refine k_callV G X (argsL := []) (rest := []) rfl EJ (w206 hw) (w207 hw) (nf_sel (w209 hw)) (w209 hw) (w208 hw) (w2 hw) (w210 hw) (by decide) (jtext hw b0 o u58 ku58 cu58 ([123, 34, 97, 34, 58, 91] : List Int32) cs h58 n0 _ EJ JT ⟨ge_o, (List.mem_of_getElem? (i := 2) rfl)⟩ ⟨ge_u58, (List.mem_of_getElem? (i := 0) rfl)⟩ O BL S_CS hcs (by decide)) at_155 pd36 rfl (pc' := 158) rfl rfl (wd := 0) rfl (by decide) (by decide) (by decide) (by decide) (fun T h155 v sf155 X q => ?_)
  obtain ⟨s155, r155, k155, rfl, sz_s155, sz_r155, K155, T155, ms155⟩ := q
  replace X := W.only X ms155
  have ne_dO_s155 : dO ≠ s155 := Nat.ne_of_lt (Nat.lt_of_lt_of_le AO.lt sz_s155)
  have ne_dT_s155 : dT ≠ s155 := Nat.ne_of_lt (Nat.lt_of_lt_of_le AT.lt sz_s155)
  have ne_b0_s155 : b0 ≠ s155 := Nat.ne_of_lt (Nat.lt_of_lt_of_le EJ.lt sz_s155)
  have ne_o_s155 : o ≠ s155 := Nat.ne_of_lt (Nat.lt_of_lt_of_le E.lt sz_s155)
  have ne_sa_s155 : sa ≠ s155 := Nat.ne_of_lt (Nat.lt_of_lt_of_le X_sa.lt sz_s155)
  have ne_sad_s155 : sad ≠ s155 := Nat.ne_of_lt (Nat.lt_of_lt_of_le SA1.lt' sz_s155)
  have ne_u58_s155 : u58 ≠ s155 := Nat.ne_of_lt (Nat.lt_of_lt_of_le BL.lt' sz_s155)
  have ne_dO_r155 : dO ≠ r155 := Nat.ne_of_lt (Nat.lt_of_lt_of_le AO.lt sz_r155)
  have ne_dT_r155 : dT ≠ r155 := Nat.ne_of_lt (Nat.lt_of_lt_of_le AT.lt sz_r155)
  have ne_b0_r155 : b0 ≠ r155 := Nat.ne_of_lt (Nat.lt_of_lt_of_le EJ.lt sz_r155)
  have ne_o_r155 : o ≠ r155 := Nat.ne_of_lt (Nat.lt_of_lt_of_le E.lt sz_r155)
  have ne_sa_r155 : sa ≠ r155 := Nat.ne_of_lt (Nat.lt_of_lt_of_le X_sa.lt sz_r155)
  have ne_sad_r155 : sad ≠ r155 := Nat.ne_of_lt (Nat.lt_of_lt_of_le SA1.lt' sz_r155)
  have ne_u58_r155 : u58 ≠ r155 := Nat.ne_of_lt (Nat.lt_of_lt_of_le BL.lt' sz_r155)
  replace S_CS := Jvm.OwnK.Sta_keep S_CS K155
  replace S_FM := Jvm.OwnK.Sta_keep S_FM K155
  replace S_FI := Jvm.OwnK.Sta_keep S_FI K155
  replace S_O := Jvm.OwnK.Sta_keep S_O K155
  replace S_T := Jvm.OwnK.Sta_keep S_T K155
  replace O := O.keep K155 (all0)
  replace AO := AO.keep K155 nin0
  replace AT := AT.keep K155 nin0
  replace EJ := EJ.keep K155
  replace JT := JT.keep K155 nin0
  replace E := E.keep K155
  replace X_sa := X_sa.keep K155
  replace SA1 := SA1.keep K155 nin0 nin0
  replace BL := BL.keep K155 nin0 nin0
  replace YA := YA.keep K155
  have T155 : Str Z _ s155 r155 k155 6 (fun i => ([123, 34, 97, 34, 58, 91] : List Int32).getD i 0) := T155
  have X_s155 := T155.1
  show Go Γ n0 _ T (mkF Γ.m 158 #[.val (.long p0), .second, .val (.int p1), .val (.long p2), .second, .val (.ref b0), .val (.int (2 : Int32)), .val (.int fl), .unset, .unset, .unset] [(.ref s155)])
  refine k_astore G X at_158 (pc' := 160) rfl rfl (l' := #[.val (.long p0), .second, .val (.int p1), .val (.long p2), .second, .val (.ref b0), .val (.int (2 : Int32)), .val (.int fl), .val (.ref s155), .unset, .unset]) rfl ?_
  refine k_aload G X at_160 (pc' := 162) rfl rfl rfl ?_
  refine k_callV G X (argsL := []) (rest := []) rfl EJ (w38 hw) (w39 hw) (nf_sel (w41 hw)) (w41 hw) (w40 hw) (w2 hw) (w42 hw) (by decide) (boN hw b0 o u58 ku58 cu58 ([123, 34, 97, 34, 58, 91] : List Int32) cs fm 5 91 h155 n0 _ EJ JT ⟨ge_o, (List.mem_of_getElem? (i := 3) rfl)⟩ ⟨ge_u58, (List.mem_of_getElem? (i := 1) rfl)⟩ O BL S_CS hcs S_FM hfm rfl rfl (by decide) (by decide) (by decide) (by decide)) at_162 pd31 rfl (pc' := 165) rfl rfl (wd := 0) rfl (by decide) (by decide) (by decide) (by decide) (fun T h162 v sf162 X q => ?_)
  obtain ⟨rfl, K162, u162, ku162, cu162, BLn, hu162, ge_u162, mu162⟩ := q
  replace X := W.only X mu162
  have ne_u162_o : u162 ≠ o := BLn.ne
  have ne_dO_u162 : dO ≠ u162 := ne_new hu162 ne_dO_u58 AO.lt
  have ne_dT_u162 : dT ≠ u162 := ne_new hu162 ne_dT_u58 AT.lt
  have ne_b0_u162 : b0 ≠ u162 := ne_new hu162 ne_b0_u58 EJ.lt
  have ne_sa_u162 : sa ≠ u162 := ne_new hu162 ne_sa_u58 X_sa.lt
  have ne_sad_u162 : sad ≠ u162 := ne_new hu162 ne_sad_u58 SA1.lt'
  have ne_s155_u162 : s155 ≠ u162 := ne_new hu162 (Ne.symm ne_u58_s155) T155.lt
  have ne_r155_u162 : r155 ≠ u162 := ne_new hu162 (Ne.symm ne_u58_r155) T155.lt'
  replace S_CS := Sta_keepL S_CS K162 (allS (Pln_exa E) (allS (Pln_exa YA) (all0)))
  replace S_FM := Sta_keepL S_FM K162 (allS (Pln_exa E) (allS (Pln_exa YA) (all0)))
  replace S_FI := Sta_keepL S_FI K162 (allS (Pln_exa E) (allS (Pln_exa YA) (all0)))
  replace S_O := Sta_keepL S_O K162 (allS (Pln_exa E) (allS (Pln_exa YA) (all0)))
  replace S_T := Sta_keepL S_T K162 (allS (Pln_exa E) (allS (Pln_exa YA) (all0)))
  replace O := O.keep K162 (allS ge_o (allS ge_u58 (all0)))
  replace AO := AO.keep K162 (nin2 ne_dO_o ne_dO_u58)
  replace AT := AT.keep K162 (nin2 ne_dT_o ne_dT_u58)
  replace EJ := EJ.keep K162
  replace JT := JT.keep K162 (nin2 ne_b0_o ne_b0_u58)
  replace E := E.keep K162
  replace X_sa := X_sa.keep K162
  replace SA1 := SA1.keep K162 (nin2 (Ne.symm ne_o_sa) ne_sa_u58) (nin2 (Ne.symm ne_o_sad) ne_sad_u58)
  replace YA := YA.keep K162
  replace T155 := T155.keep K162 (nin2 (Ne.symm ne_o_s155) (Ne.symm ne_u58_s155)) (nin2 (Ne.symm ne_o_r155) (Ne.symm ne_u58_r155))
  replace X_s155 := X_s155.keep K162
  have BL : Bld Z _ o u162 ku162 cu162 ([123, 34, 97, 34, 58, 91, 123] : List Int32) := BLn
  have YA := BL.2.1
  show Go Γ n0 _ T (mkF Γ.m 165 #[.val (.long p0), .second, .val (.int p1), .val (.long p2), .second, .val (.ref b0), .val (.int (2 : Int32)), .val (.int fl), .val (.ref s155), .unset, .unset] [])
  refine k_aload G X at_165 (pc' := 167) rfl rfl rfl ?_
  refine k_callV G X (argsL := []) (rest := []) rfl EJ (w206 hw) (w207 hw) (nf_sel (w209 hw)) (w209 hw) (w208 hw) (w2 hw) (w210 hw) (by decide) (jtext hw b0 o u162 ku162 cu162 ([123, 34, 97, 34, 58, 91, 123] : List Int32) cs h162 n0 _ EJ JT ⟨ge_o, (List.mem_of_getElem? (i := 4) rfl)⟩ ⟨ge_u162, (List.mem_of_getElem? (i := 0) rfl)⟩ O BL S_CS hcs (by decide)) at_167 pd36 rfl (pc' := 170) rfl rfl (wd := 0) rfl (by decide) (by decide) (by decide) (by decide) (fun T h167 v sf167 X q => ?_)
  obtain ⟨s167, r167, k167, rfl, sz_s167, sz_r167, K167, T167, ms167⟩ := q
  replace X := W.only X ms167
  have ne_dO_s167 : dO ≠ s167 := Nat.ne_of_lt (Nat.lt_of_lt_of_le AO.lt sz_s167)
  have ne_dT_s167 : dT ≠ s167 := Nat.ne_of_lt (Nat.lt_of_lt_of_le AT.lt sz_s167)
  have ne_b0_s167 : b0 ≠ s167 := Nat.ne_of_lt (Nat.lt_of_lt_of_le EJ.lt sz_s167)
  have ne_o_s167 : o ≠ s167 := Nat.ne_of_lt (Nat.lt_of_lt_of_le E.lt sz_s167)
  have ne_sa_s167 : sa ≠ s167 := Nat.ne_of_lt (Nat.lt_of_lt_of_le X_sa.lt sz_s167)
  have ne_sad_s167 : sad ≠ s167 := Nat.ne_of_lt (Nat.lt_of_lt_of_le SA1.lt' sz_s167)
  have ne_s155_s167 : s155 ≠ s167 := Nat.ne_of_lt (Nat.lt_of_lt_of_le T155.lt sz_s167)
  have ne_r155_s167 : r155 ≠ s167 := Nat.ne_of_lt (Nat.lt_of_lt_of_le T155.lt' sz_s167)
  have ne_u162_s167 : u162 ≠ s167 := Nat.ne_of_lt (Nat.lt_of_lt_of_le BL.lt' sz_s167)
  have ne_dO_r167 : dO ≠ r167 := Nat.ne_of_lt (Nat.lt_of_lt_of_le AO.lt sz_r167)
  have ne_dT_r167 : dT ≠ r167 := Nat.ne_of_lt (Nat.lt_of_lt_of_le AT.lt sz_r167)
  have ne_b0_r167 : b0 ≠ r167 := Nat.ne_of_lt (Nat.lt_of_lt_of_le EJ.lt sz_r167)
  have ne_o_r167 : o ≠ r167 := Nat.ne_of_lt (Nat.lt_of_lt_of_le E.lt sz_r167)
  have ne_sa_r167 : sa ≠ r167 := Nat.ne_of_lt (Nat.lt_of_lt_of_le X_sa.lt sz_r167)
  have ne_sad_r167 : sad ≠ r167 := Nat.ne_of_lt (Nat.lt_of_lt_of_le SA1.lt' sz_r167)
  have ne_s155_r167 : s155 ≠ r167 := Nat.ne_of_lt (Nat.lt_of_lt_of_le T155.lt sz_r167)
  have ne_r155_r167 : r155 ≠ r167 := Nat.ne_of_lt (Nat.lt_of_lt_of_le T155.lt' sz_r167)
  have ne_u162_r167 : u162 ≠ r167 := Nat.ne_of_lt (Nat.lt_of_lt_of_le BL.lt' sz_r167)
  replace S_CS := Jvm.OwnK.Sta_keep S_CS K167
  replace S_FM := Jvm.OwnK.Sta_keep S_FM K167
  replace S_FI := Jvm.OwnK.Sta_keep S_FI K167
  replace S_O := Jvm.OwnK.Sta_keep S_O K167
  replace S_T := Jvm.OwnK.Sta_keep S_T K167
  replace O := O.keep K167 (all0)
  replace AO := AO.keep K167 nin0
  replace AT := AT.keep K167 nin0
  replace EJ := EJ.keep K167
  replace JT := JT.keep K167 nin0
  replace E := E.keep K167
  replace X_sa := X_sa.keep K167
  replace SA1 := SA1.keep K167 nin0 nin0
  replace T155 := T155.keep K167 nin0 nin0
  replace X_s155 := X_s155.keep K167
  replace BL := BL.keep K167 nin0 nin0
  replace YA := YA.keep K167
  have T167 : Str Z _ s167 r167 k167 7 (fun i => ([123, 34, 97, 34, 58, 91, 123] : List Int32).getD i 0) := T167
  have X_s167 := T167.1
  show Go Γ n0 _ T (mkF Γ.m 170 #[.val (.long p0), .second, .val (.int p1), .val (.long p2), .second, .val (.ref b0), .val (.int (2 : Int32)), .val (.int fl), .val (.ref s155), .unset, .unset] [(.ref s167)])
  refine k_astore G X at_170 (pc' := 172) rfl rfl (l' := #[.val (.long p0), .second, .val (.int p1), .val (.long p2), .second, .val (.ref b0), .val (.int (2 : Int32)), .val (.int fl), .val (.ref s155), .val (.ref s167), .unset]) rfl ?_
  refine k_iload G X at_172 (pc' := 174) rfl rfl ?_
  refine k_if_ne G X at_174 (pc' := 185) rfl (by decide) (pc'' := 177) rfl (fun c174 => ?_) (fun c174 => (absurd c174 (by decide)))
  refine k_iload G X at_185 (pc' := 187) rfl rfl ?_
  refine k_iconst G X at_187 (pc' := 188) rfl (z := (1 : Int32)) (by decide) ?_
  refine k_icmp_ne G X at_188 (pc' := 199) rfl (by decide) (pc'' := 191) rfl (fun c188 => ?_) (fun c188 => (absurd c188 (by decide)))
  refine k_iload G X at_199 (pc' := 201) rfl rfl ?_
  refine k_iconst G X at_201 (pc' := 202) rfl (z := (2 : Int32)) (by decide) ?_
  refine k_icmp_ne G X at_202 (pc' := 213) rfl (by decide) (pc'' := 205) rfl (fun c202 => (absurd c202 (by decide))) (fun c202 => ?_)
  refine k_aload G X at_205 (pc' := 207) rfl rfl rfl ?_
  refine k_ldcH G X (n := 28) (vs := ([123, 34, 97, 34, 58, 91, 123] : List Int32)) (z := 7) (w241 hw) (strAtoms hw) (by decide) ⟨by decide, by decide⟩ (by decide) at_207 (pc' := 209) rfl (by decide) (by decide) (by decide) (by decide) (fun T h207 sk skd k207 E207 Xs Fc Fv Fa hne207 X => ?_)
  replace O := O.ext E207
  replace S_CS := S_CS.ext E207
  replace S_FM := S_FM.ext E207
  replace S_FI := S_FI.ext E207
  replace AO := AO.ext E207
  replace AT := AT.ext E207
  replace S_O := S_O.ext E207
  replace S_T := S_T.ext E207
  replace EJ := EJ.ext E207
  replace JT := JT.ext E207
  replace E := E.ext E207
  replace X_sa := X_sa.ext E207
  replace SA1 := SA1.ext E207
  replace T155 := T155.ext E207
  replace X_s155 := X_s155.ext E207
  replace BL := BL.ext E207
  replace YA := YA.ext E207
  replace T167 := T167.ext E207
  replace X_s167 := X_s167.ext E207
  have SK : Str Z h207 sk skd k207 7 (fun i => ([123, 34, 97, 34, 58, 91, 123] : List Int32).getD i 0) := ⟨Xs, Fc, Fv, Fa⟩
  have X_sk := Xs
  have ne_s167_sk := (hne207 s167 (List.mem_of_getElem? (i := 0) rfl)).1
  have ne_s167_skd := (hne207 s167 (List.mem_of_getElem? (i := 0) rfl)).2
  have ne_u162_sk := (hne207 u162 (List.mem_of_getElem? (i := 1) rfl)).1
  have ne_u162_skd := (hne207 u162 (List.mem_of_getElem? (i := 1) rfl)).2
  have ne_s155_sk := (hne207 s155 (List.mem_of_getElem? (i := 2) rfl)).1
  have ne_s155_skd := (hne207 s155 (List.mem_of_getElem? (i := 2) rfl)).2
  have ne_u58_sk := (hne207 u58 (List.mem_of_getElem? (i := 3) rfl)).1
  have ne_u58_skd := (hne207 u58 (List.mem_of_getElem? (i := 3) rfl)).2
  have ne_u45_sk := (hne207 u45 (List.mem_of_getElem? (i := 4) rfl)).1
  have ne_u45_skd := (hne207 u45 (List.mem_of_getElem? (i := 4) rfl)).2
  have ne_o_sk := (hne207 o (List.mem_of_getElem? (i := 5) rfl)).1
  have ne_o_skd := (hne207 o (List.mem_of_getElem? (i := 5) rfl)).2
  have ne_b_sk := (hne207 b (List.mem_of_getElem? (i := 6) rfl)).1
  have ne_b_skd := (hne207 b (List.mem_of_getElem? (i := 6) rfl)).2
  have ne_b0_sk := (hne207 b0 (List.mem_of_getElem? (i := 7) rfl)).1
  have ne_b0_skd := (hne207 b0 (List.mem_of_getElem? (i := 7) rfl)).2
  refine k_callV G X (argsL := [(.ref sk)]) (rest := []) rfl X_s167 (w242 hw) (w243 hw) (nf_sel (w245 hw)) (w245 hw) (w244 hw) (w29 hw) (w246 hw) (by decide) (str_eq hw s167 sk r167 skd k167 k207 7 7 cs _ _ h207 n0 _ T167 SK ne_s167_sk S_CS hcs) at_209 pd39 rfl (pc' := 212) rfl rfl (wd := 0) rfl (by decide) (by decide) (by decide) (by decide) (fun T h209 v sf209 X q => ?_)
  replace X := W.drop X
  obtain ⟨r, rfl, hr, hi, e209⟩ := q
  replace X := X.eq e209
  obtain rfl : (1 : Int32) = r := (hi.mpr ⟨rfl, fun i _ => rfl⟩).symm
  show Go Γ n0 _ T (mkF Γ.m 212 #[.val (.long p0), .second, .val (.int p1), .val (.long p2), .second, .val (.ref b0), .val (.int (2 : Int32)), .val (.int fl), .val (.ref s155), .val (.ref s167), .unset] [(.int (1 : Int32))])
  refine k_retb G X at_212 (t := .boolean) rfl (by simp) rfl ?_ (by decide) (by decide)
  rfl
set_option maxRecDepth 65536 in
set_option maxHeartbeats 40000000 in
theorem md3 {Z : State} {a0 : Array Value} (hw : HW a0 Z) (p0 : Int64) (p1 cs : Int32) (p2 : Int64) (fm fi : Value) (dO dT : Addr) (kO kT : ClassId) (gO gT : Nat → Int32) (b0 o b : Addr) (k : ClassId) (nn : Nat) (fl : Int32) (h0 h9 : Heap) (n0 : Nat) (O : Old Z n0 h9) (S_CS : Sta Z h9 "java/lang/String" "COMPACT_STRINGS" "Z" (.int cs)) (hcs : cs ≠ 0) (S_FM : Sta Z h9 "jdk/internal/util/Preconditions" "SIOOBE_FORMATTER" "Ljava/util/function/BiFunction;" fm) (hfm : fm.isRef = true) (S_FI : Sta Z h9 "jdk/internal/util/Preconditions" "IOOBE_FORMATTER" "Ljava/util/function/BiFunction;" fi) (hfi : fi.isRef = true) (AO : Arf Z h9 dO kO .byte 100 (fun i => .int (gO i))) (AT : Arf Z h9 dT kT .byte 100 (fun i => .int (gT i))) (S_O : Sta Z h9 "java/lang/Integer" "DigitOnes" "[B" (.ref dO)) (S_T : Sta Z h9 "java/lang/Integer" "DigitTens" "[B" (.ref dT)) (hO : ∀ i, i < 100 → dig (gO i)) (hT : ∀ i, i < 100 → dig (gT i)) (EJ : Exa Z h9 b0 "com/example/half_message_commit/halfmessagecommit/protocol/JsonWriter") (JT : Fld Z h9 b0 "com/example/half_message_commit/halfmessagecommit/protocol/JsonWriter" "text" "Ljava/lang/StringBuilder;" (.ref o)) (BL : Bld Z h9 o b k nn []) (ge_b0 : n0 ≤ b0) (ge_o : n0 ≤ o) (ge_b : n0 ≤ b) (ne_b_o : b ≠ o) (ne_b0_b : b0 ≠ b) (ne_b0_o : b0 ≠ o) (ne_dO_b : dO ≠ b) (ne_dO_b0 : dO ≠ b0) (ne_dO_o : dO ≠ o) (ne_dT_b : dT ≠ b) (ne_dT_b0 : dT ≠ b0) (ne_dT_o : dT ≠ o) (hfl : fl = 0 ∨ fl = 1) (Γ : Cx) (T : State) (G : Ctx Γ Z consts_1 x.cls code maxLocals ret x.name room_1 h0) (X : W Γ n0 T h9 3 65540 (b :: b0 :: [])) : Go Γ n0 (fun v h sf => v = some (.int 1)) T (mkF Γ.m 38 #[.val (.long p0), .second, .val (.int p1), .val (.long p2), .second, .val (.ref b0), .val (.int (3 : Int32)), .val (.int fl), .unset, .unset, .unset] []) := by
  have E := BL.1
  have YA := BL.2.1
  refine k_iload G X at_38 (pc' := 40) rfl rfl ?_
  refine k_if_eq G X at_40 (pc' := 48) rfl (by decide) (pc'' := 43) rfl (fun c40 => (absurd c40 (by decide))) (fun c40 => ?_)
  refine k_aload G X at_43 (pc' := 45) rfl rfl rfl ?_
  replace X := W.addE G X E (by decide) (by decide)
  refine k_callV G X (argsL := []) (rest := []) rfl EJ (w38 hw) (w39 hw) (nf_sel (w41 hw)) (w41 hw) (w40 hw) (w2 hw) (w42 hw) (by decide) (boE hw b0 o b k nn ([] : List Int32) cs  h9 n0 _ EJ JT ⟨ge_o, (List.mem_of_getElem? (i := 0) rfl)⟩ ⟨ge_b, (List.mem_of_getElem? (i := 1) rfl)⟩ O BL S_CS hcs rfl) at_45 pd31 rfl (pc' := 48) rfl rfl (wd := 0) rfl (by decide) (by decide) (by decide) (by decide) (fun T h45 v sf45 X q => ?_)
  obtain ⟨rfl, K45, u45, ku45, cu45, BLn, hu45, ge_u45, mu45⟩ := q
  replace X := W.only X mu45
  have ne_u45_o : u45 ≠ o := BLn.ne
  have ne_dO_u45 : dO ≠ u45 := ne_new hu45 ne_dO_b AO.lt
  have ne_dT_u45 : dT ≠ u45 := ne_new hu45 ne_dT_b AT.lt
  have ne_b0_u45 : b0 ≠ u45 := ne_new hu45 ne_b0_b EJ.lt
  replace S_CS := Sta_keepL S_CS K45 (allS (Pln_exa E) (allS (Pln_exa YA) (all0)))
  replace S_FM := Sta_keepL S_FM K45 (allS (Pln_exa E) (allS (Pln_exa YA) (all0)))
  replace S_FI := Sta_keepL S_FI K45 (allS (Pln_exa E) (allS (Pln_exa YA) (all0)))
  replace S_O := Sta_keepL S_O K45 (allS (Pln_exa E) (allS (Pln_exa YA) (all0)))
  replace S_T := Sta_keepL S_T K45 (allS (Pln_exa E) (allS (Pln_exa YA) (all0)))
  replace O := O.keep K45 (allS ge_o (allS ge_b (all0)))
  replace AO := AO.keep K45 (nin2 ne_dO_o ne_dO_b)
  replace AT := AT.keep K45 (nin2 ne_dT_o ne_dT_b)
  replace EJ := EJ.keep K45
  replace JT := JT.keep K45 (nin2 ne_b0_o ne_b0_b)
  replace E := E.keep K45
  replace YA := YA.keep K45
  have BL : Bld Z _ o u45 ku45 cu45 ([123] : List Int32) := BLn
  have YA := BL.2.1
  show Go Γ n0 _ T (mkF Γ.m 48 #[.val (.long p0), .second, .val (.int p1), .val (.long p2), .second, .val (.ref b0), .val (.int (3 : Int32)), .val (.int fl), .unset, .unset, .unset] [])
  refine k_iload G X at_48 (pc' := 50) rfl rfl ?_
  refine k_iconst G X at_50 (pc' := 51) rfl (z := (2 : Int32)) (by decide) ?_
  refine k_icmp_ne G X at_51 (pc' := 64) rfl (by decide) (pc'' := 54) rfl (fun c51 => ?_) (fun c51 => (absurd c51 (by decide)))
  refine k_iload G X at_64 (pc' := 66) rfl rfl ?_
  refine k_iconst G X at_66 (pc' := 67) rfl (z := (3 : Int32)) (by decide) ?_
  refine k_icmp_ne G X at_67 (pc' := 78) rfl (by decide) (pc'' := 70) rfl (fun c67 => (absurd c67 (by decide))) (fun c67 => ?_)
  refine k_aload G X at_70 (pc' := 72) rfl rfl rfl ?_
  refine k_callV G X (argsL := []) (rest := []) rfl EJ (w286 hw) (w287 hw) (nf_sel (w289 hw)) (w289 hw) (w288 hw) (w2 hw) (w290 hw) (by decide) (eo hw b0 o u45 ku45 cu45 ([123] : List Int32) cs  h45 n0 _ EJ JT ⟨ge_o, (List.mem_of_getElem? (i := 1) rfl)⟩ ⟨ge_u45, (List.mem_of_getElem? (i := 0) rfl)⟩ O BL S_CS hcs (by decide)) at_72 pd31 rfl (pc' := 75) rfl rfl (wd := 0) rfl (by decide) (by decide) (by decide) (by decide) (fun T h72 v sf72 X q => ?_)
  obtain ⟨rfl, K72, u72, ku72, cu72, BLn, hu72, ge_u72, mu72⟩ := q
  replace X := W.only X mu72
  have ne_u72_o : u72 ≠ o := BLn.ne
  have ne_dO_u72 : dO ≠ u72 := ne_new hu72 ne_dO_u45 AO.lt
  have ne_dT_u72 : dT ≠ u72 := ne_new hu72 ne_dT_u45 AT.lt
  have ne_b0_u72 : b0 ≠ u72 := ne_new hu72 ne_b0_u45 EJ.lt
  replace S_CS := Sta_keepL S_CS K72 (allS (Pln_exa E) (allS (Pln_exa YA) (all0)))
  replace S_FM := Sta_keepL S_FM K72 (allS (Pln_exa E) (allS (Pln_exa YA) (all0)))
  replace S_FI := Sta_keepL S_FI K72 (allS (Pln_exa E) (allS (Pln_exa YA) (all0)))
  replace S_O := Sta_keepL S_O K72 (allS (Pln_exa E) (allS (Pln_exa YA) (all0)))
  replace S_T := Sta_keepL S_T K72 (allS (Pln_exa E) (allS (Pln_exa YA) (all0)))
  replace O := O.keep K72 (allS ge_o (allS ge_u45 (all0)))
  replace AO := AO.keep K72 (nin2 ne_dO_o ne_dO_u45)
  replace AT := AT.keep K72 (nin2 ne_dT_o ne_dT_u45)
  replace EJ := EJ.keep K72
  replace JT := JT.keep K72 (nin2 ne_b0_o ne_b0_u45)
  replace E := E.keep K72
  replace YA := YA.keep K72
  have BL : Bld Z _ o u72 ku72 cu72 ([123, 125] : List Int32) := BLn
  have YA := BL.2.1
  show Go Γ n0 _ T (mkF Γ.m 75 #[.val (.long p0), .second, .val (.int p1), .val (.long p2), .second, .val (.ref b0), .val (.int (3 : Int32)), .val (.int fl), .unset, .unset, .unset] [])
  refine k_goto G X at_75 (by decide) (pc' := 153) rfl ?_
  refine k_aload G X at_153 (pc' := 155) rfl rfl rfl ?_
  refine k_callV G X (argsL := []) (rest := []) rfl EJ (w206 hw) (w207 hw) (nf_sel (w209 hw)) (w209 hw) (w208 hw) (w2 hw) (w210 hw) (by decide) (jtext hw b0 o u72 ku72 cu72 ([123, 125] : List Int32) cs h72 n0 _ EJ JT ⟨ge_o, (List.mem_of_getElem? (i := 2) rfl)⟩ ⟨ge_u72, (List.mem_of_getElem? (i := 0) rfl)⟩ O BL S_CS hcs (by decide)) at_155 pd36 rfl (pc' := 158) rfl rfl (wd := 0) rfl (by decide) (by decide) (by decide) (by decide) (fun T h155 v sf155 X q => ?_)
  obtain ⟨s155, r155, k155, rfl, sz_s155, sz_r155, K155, T155, ms155⟩ := q
  replace X := W.only X ms155
  have ne_dO_s155 : dO ≠ s155 := Nat.ne_of_lt (Nat.lt_of_lt_of_le AO.lt sz_s155)
  have ne_dT_s155 : dT ≠ s155 := Nat.ne_of_lt (Nat.lt_of_lt_of_le AT.lt sz_s155)
  have ne_b0_s155 : b0 ≠ s155 := Nat.ne_of_lt (Nat.lt_of_lt_of_le EJ.lt sz_s155)
  have ne_o_s155 : o ≠ s155 := Nat.ne_of_lt (Nat.lt_of_lt_of_le E.lt sz_s155)
  have ne_u72_s155 : u72 ≠ s155 := Nat.ne_of_lt (Nat.lt_of_lt_of_le BL.lt' sz_s155)
  have ne_dO_r155 : dO ≠ r155 := Nat.ne_of_lt (Nat.lt_of_lt_of_le AO.lt sz_r155)
  have ne_dT_r155 : dT ≠ r155 := Nat.ne_of_lt (Nat.lt_of_lt_of_le AT.lt sz_r155)
  have ne_b0_r155 : b0 ≠ r155 := Nat.ne_of_lt (Nat.lt_of_lt_of_le EJ.lt sz_r155)
  have ne_o_r155 : o ≠ r155 := Nat.ne_of_lt (Nat.lt_of_lt_of_le E.lt sz_r155)
  have ne_u72_r155 : u72 ≠ r155 := Nat.ne_of_lt (Nat.lt_of_lt_of_le BL.lt' sz_r155)
  replace S_CS := Jvm.OwnK.Sta_keep S_CS K155
  replace S_FM := Jvm.OwnK.Sta_keep S_FM K155
  replace S_FI := Jvm.OwnK.Sta_keep S_FI K155
  replace S_O := Jvm.OwnK.Sta_keep S_O K155
  replace S_T := Jvm.OwnK.Sta_keep S_T K155
  replace O := O.keep K155 (all0)
  replace AO := AO.keep K155 nin0
  replace AT := AT.keep K155 nin0
  replace EJ := EJ.keep K155
  replace JT := JT.keep K155 nin0
  replace E := E.keep K155
  replace BL := BL.keep K155 nin0 nin0
  replace YA := YA.keep K155
  have T155 : Str Z _ s155 r155 k155 2 (fun i => ([123, 125] : List Int32).getD i 0) := T155
  have X_s155 := T155.1
  show Go Γ n0 _ T (mkF Γ.m 158 #[.val (.long p0), .second, .val (.int p1), .val (.long p2), .second, .val (.ref b0), .val (.int (3 : Int32)), .val (.int fl), .unset, .unset, .unset] [(.ref s155)])
  refine k_astore G X at_158 (pc' := 160) rfl rfl (l' := #[.val (.long p0), .second, .val (.int p1), .val (.long p2), .second, .val (.ref b0), .val (.int (3 : Int32)), .val (.int fl), .val (.ref s155), .unset, .unset]) rfl ?_
  refine k_aload G X at_160 (pc' := 162) rfl rfl rfl ?_
  refine k_callV G X (argsL := []) (rest := []) rfl EJ (w38 hw) (w39 hw) (nf_sel (w41 hw)) (w41 hw) (w40 hw) (w2 hw) (w42 hw) (by decide) (boC hw b0 o u72 ku72 cu72 ([123, 125] : List Int32) cs fm 1 125 h155 n0 _ EJ JT ⟨ge_o, (List.mem_of_getElem? (i := 3) rfl)⟩ ⟨ge_u72, (List.mem_of_getElem? (i := 1) rfl)⟩ O BL S_CS hcs S_FM hfm rfl rfl (by decide) (by decide) (by decide) (by decide) (by decide)) at_162 pd31 rfl (pc' := 165) rfl rfl (wd := 0) rfl (by decide) (by decide) (by decide) (by decide) (fun T h162 v sf162 X q => ?_)
  obtain ⟨rfl, K162, u162, ku162, cu162, BLn, hu162, ge_u162, mu162⟩ := q
  replace X := W.only X mu162
  have ne_u162_o : u162 ≠ o := BLn.ne
  have ne_dO_u162 : dO ≠ u162 := ne_new hu162 ne_dO_u72 AO.lt
  have ne_dT_u162 : dT ≠ u162 := ne_new hu162 ne_dT_u72 AT.lt
  have ne_b0_u162 : b0 ≠ u162 := ne_new hu162 ne_b0_u72 EJ.lt
  have ne_s155_u162 : s155 ≠ u162 := ne_new hu162 (Ne.symm ne_u72_s155) T155.lt
  have ne_r155_u162 : r155 ≠ u162 := ne_new hu162 (Ne.symm ne_u72_r155) T155.lt'
  replace S_CS := Sta_keepL S_CS K162 (allS (Pln_exa E) (allS (Pln_exa YA) (all0)))
  replace S_FM := Sta_keepL S_FM K162 (allS (Pln_exa E) (allS (Pln_exa YA) (all0)))
  replace S_FI := Sta_keepL S_FI K162 (allS (Pln_exa E) (allS (Pln_exa YA) (all0)))
  replace S_O := Sta_keepL S_O K162 (allS (Pln_exa E) (allS (Pln_exa YA) (all0)))
  replace S_T := Sta_keepL S_T K162 (allS (Pln_exa E) (allS (Pln_exa YA) (all0)))
  replace O := O.keep K162 (allS ge_o (allS ge_u72 (all0)))
  replace AO := AO.keep K162 (nin2 ne_dO_o ne_dO_u72)
  replace AT := AT.keep K162 (nin2 ne_dT_o ne_dT_u72)
  replace EJ := EJ.keep K162
  replace JT := JT.keep K162 (nin2 ne_b0_o ne_b0_u72)
  replace E := E.keep K162
  replace YA := YA.keep K162
  replace T155 := T155.keep K162 (nin2 (Ne.symm ne_o_s155) (Ne.symm ne_u72_s155)) (nin2 (Ne.symm ne_o_r155) (Ne.symm ne_u72_r155))
  replace X_s155 := X_s155.keep K162
  have BL : Bld Z _ o u162 ku162 cu162 ([123, 125, 44, 123] : List Int32) := BLn
  have YA := BL.2.1
  show Go Γ n0 _ T (mkF Γ.m 165 #[.val (.long p0), .second, .val (.int p1), .val (.long p2), .second, .val (.ref b0), .val (.int (3 : Int32)), .val (.int fl), .val (.ref s155), .unset, .unset] [])
  refine k_aload G X at_165 (pc' := 167) rfl rfl rfl ?_
  refine k_callV G X (argsL := []) (rest := []) rfl EJ (w206 hw) (w207 hw) (nf_sel (w209 hw)) (w209 hw) (w208 hw) (w2 hw) (w210 hw) (by decide) (jtext hw b0 o u162 ku162 cu162 ([123, 125, 44, 123] : List Int32) cs h162 n0 _ EJ JT ⟨ge_o, (List.mem_of_getElem? (i := 4) rfl)⟩ ⟨ge_u162, (List.mem_of_getElem? (i := 0) rfl)⟩ O BL S_CS hcs (by decide)) at_167 pd36 rfl (pc' := 170) rfl rfl (wd := 0) rfl (by decide) (by decide) (by decide) (by decide) (fun T h167 v sf167 X q => ?_)
  obtain ⟨s167, r167, k167, rfl, sz_s167, sz_r167, K167, T167, ms167⟩ := q
  replace X := W.only X ms167
  have ne_dO_s167 : dO ≠ s167 := Nat.ne_of_lt (Nat.lt_of_lt_of_le AO.lt sz_s167)
  have ne_dT_s167 : dT ≠ s167 := Nat.ne_of_lt (Nat.lt_of_lt_of_le AT.lt sz_s167)
  have ne_b0_s167 : b0 ≠ s167 := Nat.ne_of_lt (Nat.lt_of_lt_of_le EJ.lt sz_s167)
  have ne_o_s167 : o ≠ s167 := Nat.ne_of_lt (Nat.lt_of_lt_of_le E.lt sz_s167)
  have ne_s155_s167 : s155 ≠ s167 := Nat.ne_of_lt (Nat.lt_of_lt_of_le T155.lt sz_s167)
  have ne_r155_s167 : r155 ≠ s167 := Nat.ne_of_lt (Nat.lt_of_lt_of_le T155.lt' sz_s167)
  have ne_u162_s167 : u162 ≠ s167 := Nat.ne_of_lt (Nat.lt_of_lt_of_le BL.lt' sz_s167)
  have ne_dO_r167 : dO ≠ r167 := Nat.ne_of_lt (Nat.lt_of_lt_of_le AO.lt sz_r167)
  have ne_dT_r167 : dT ≠ r167 := Nat.ne_of_lt (Nat.lt_of_lt_of_le AT.lt sz_r167)
  have ne_b0_r167 : b0 ≠ r167 := Nat.ne_of_lt (Nat.lt_of_lt_of_le EJ.lt sz_r167)
  have ne_o_r167 : o ≠ r167 := Nat.ne_of_lt (Nat.lt_of_lt_of_le E.lt sz_r167)
  have ne_s155_r167 : s155 ≠ r167 := Nat.ne_of_lt (Nat.lt_of_lt_of_le T155.lt sz_r167)
  have ne_r155_r167 : r155 ≠ r167 := Nat.ne_of_lt (Nat.lt_of_lt_of_le T155.lt' sz_r167)
  have ne_u162_r167 : u162 ≠ r167 := Nat.ne_of_lt (Nat.lt_of_lt_of_le BL.lt' sz_r167)
  replace S_CS := Jvm.OwnK.Sta_keep S_CS K167
  replace S_FM := Jvm.OwnK.Sta_keep S_FM K167
  replace S_FI := Jvm.OwnK.Sta_keep S_FI K167
  replace S_O := Jvm.OwnK.Sta_keep S_O K167
  replace S_T := Jvm.OwnK.Sta_keep S_T K167
  replace O := O.keep K167 (all0)
  replace AO := AO.keep K167 nin0
  replace AT := AT.keep K167 nin0
  replace EJ := EJ.keep K167
  replace JT := JT.keep K167 nin0
  replace E := E.keep K167
  replace T155 := T155.keep K167 nin0 nin0
  replace X_s155 := X_s155.keep K167
  replace BL := BL.keep K167 nin0 nin0
  replace YA := YA.keep K167
  have T167 : Str Z _ s167 r167 k167 4 (fun i => ([123, 125, 44, 123] : List Int32).getD i 0) := T167
  have X_s167 := T167.1
  show Go Γ n0 _ T (mkF Γ.m 170 #[.val (.long p0), .second, .val (.int p1), .val (.long p2), .second, .val (.ref b0), .val (.int (3 : Int32)), .val (.int fl), .val (.ref s155), .unset, .unset] [(.ref s167)])
  refine k_astore G X at_170 (pc' := 172) rfl rfl (l' := #[.val (.long p0), .second, .val (.int p1), .val (.long p2), .second, .val (.ref b0), .val (.int (3 : Int32)), .val (.int fl), .val (.ref s155), .val (.ref s167), .unset]) rfl ?_
  refine k_iload G X at_172 (pc' := 174) rfl rfl ?_
  refine k_if_ne G X at_174 (pc' := 185) rfl (by decide) (pc'' := 177) rfl (fun c174 => ?_) (fun c174 => (absurd c174 (by decide)))
  refine k_iload G X at_185 (pc' := 187) rfl rfl ?_
  refine k_iconst G X at_187 (pc' := 188) rfl (z := (1 : Int32)) (by decide) ?_
  refine k_icmp_ne G X at_188 (pc' := 199) rfl (by decide) (pc'' := 191) rfl (fun c188 => ?_) (fun c188 => (absurd c188 (by decide)))
  refine k_iload G X at_199 (pc' := 201) rfl rfl ?_
  refine k_iconst G X at_201 (pc' := 202) rfl (z := (2 : Int32)) (by decide) ?_
  refine k_icmp_ne G X at_202 (pc' := 213) rfl (by decide) (pc'' := 205) rfl (fun c202 => ?_) (fun c202 => (absurd c202 (by decide)))
  refine k_iload G X at_213 (pc' := 215) rfl rfl ?_
  refine k_iconst G X at_215 (pc' := 216) rfl (z := (3 : Int32)) (by decide) ?_
  refine k_icmp_ne G X at_216 (pc' := 227) rfl (by decide) (pc'' := 219) rfl (fun c216 => (absurd c216 (by decide))) (fun c216 => ?_)
  refine k_aload G X at_219 (pc' := 221) rfl rfl rfl ?_
  refine k_ldcH G X (n := 16) (vs := ([123, 125, 44, 123] : List Int32)) (z := 4) (w291 hw) (strAtoms hw) (by decide) ⟨by decide, by decide⟩ (by decide) at_221 (pc' := 223) rfl (by decide) (by decide) (by decide) (by decide) (fun T h221 sk skd k221 E221 Xs Fc Fv Fa hne221 X => ?_)
  replace O := O.ext E221
  replace S_CS := S_CS.ext E221
  replace S_FM := S_FM.ext E221
  replace S_FI := S_FI.ext E221
  replace AO := AO.ext E221
  replace AT := AT.ext E221
  replace S_O := S_O.ext E221
  replace S_T := S_T.ext E221
  replace EJ := EJ.ext E221
  replace JT := JT.ext E221
  replace E := E.ext E221
  replace T155 := T155.ext E221
  replace X_s155 := X_s155.ext E221
  replace BL := BL.ext E221
  replace YA := YA.ext E221
  replace T167 := T167.ext E221
  replace X_s167 := X_s167.ext E221
  have SK : Str Z h221 sk skd k221 4 (fun i => ([123, 125, 44, 123] : List Int32).getD i 0) := ⟨Xs, Fc, Fv, Fa⟩
  have X_sk := Xs
  have ne_s167_sk := (hne221 s167 (List.mem_of_getElem? (i := 0) rfl)).1
  have ne_s167_skd := (hne221 s167 (List.mem_of_getElem? (i := 0) rfl)).2
  have ne_u162_sk := (hne221 u162 (List.mem_of_getElem? (i := 1) rfl)).1
  have ne_u162_skd := (hne221 u162 (List.mem_of_getElem? (i := 1) rfl)).2
  have ne_s155_sk := (hne221 s155 (List.mem_of_getElem? (i := 2) rfl)).1
  have ne_s155_skd := (hne221 s155 (List.mem_of_getElem? (i := 2) rfl)).2
  have ne_u72_sk := (hne221 u72 (List.mem_of_getElem? (i := 3) rfl)).1
  have ne_u72_skd := (hne221 u72 (List.mem_of_getElem? (i := 3) rfl)).2
  have ne_u45_sk := (hne221 u45 (List.mem_of_getElem? (i := 4) rfl)).1
  have ne_u45_skd := (hne221 u45 (List.mem_of_getElem? (i := 4) rfl)).2
  have ne_o_sk := (hne221 o (List.mem_of_getElem? (i := 5) rfl)).1
  have ne_o_skd := (hne221 o (List.mem_of_getElem? (i := 5) rfl)).2
  have ne_b_sk := (hne221 b (List.mem_of_getElem? (i := 6) rfl)).1
  have ne_b_skd := (hne221 b (List.mem_of_getElem? (i := 6) rfl)).2
  have ne_b0_sk := (hne221 b0 (List.mem_of_getElem? (i := 7) rfl)).1
  have ne_b0_skd := (hne221 b0 (List.mem_of_getElem? (i := 7) rfl)).2
  refine k_callV G X (argsL := [(.ref sk)]) (rest := []) rfl X_s167 (w242 hw) (w243 hw) (nf_sel (w245 hw)) (w245 hw) (w244 hw) (w29 hw) (w246 hw) (by decide) (str_eq hw s167 sk r167 skd k167 k221 4 4 cs _ _ h221 n0 _ T167 SK ne_s167_sk S_CS hcs) at_223 pd39 rfl (pc' := 226) rfl rfl (wd := 0) rfl (by decide) (by decide) (by decide) (by decide) (fun T h223 v sf223 X q => ?_)
  replace X := W.drop X
  obtain ⟨r, rfl, hr, hi, e223⟩ := q
  replace X := X.eq e223
  obtain rfl : (1 : Int32) = r := (hi.mpr ⟨rfl, fun i _ => rfl⟩).symm
  show Go Γ n0 _ T (mkF Γ.m 226 #[.val (.long p0), .second, .val (.int p1), .val (.long p2), .second, .val (.ref b0), .val (.int (3 : Int32)), .val (.int fl), .val (.ref s155), .val (.ref s167), .unset] [(.int (1 : Int32))])
  refine k_retb G X at_226 (t := .boolean) rfl (by simp) rfl ?_ (by decide) (by decide)
  rfl
set_option maxRecDepth 65536 in
set_option maxHeartbeats 40000000 in
theorem md4 {Z : State} {a0 : Array Value} (hw : HW a0 Z) (p0 : Int64) (p1 cs : Int32) (p2 : Int64) (fm fi : Value) (dO dT : Addr) (kO kT : ClassId) (gO gT : Nat → Int32) (b0 o b : Addr) (k : ClassId) (nn : Nat) (fl : Int32) (h0 h9 : Heap) (n0 : Nat) (O : Old Z n0 h9) (S_CS : Sta Z h9 "java/lang/String" "COMPACT_STRINGS" "Z" (.int cs)) (hcs : cs ≠ 0) (S_FM : Sta Z h9 "jdk/internal/util/Preconditions" "SIOOBE_FORMATTER" "Ljava/util/function/BiFunction;" fm) (hfm : fm.isRef = true) (S_FI : Sta Z h9 "jdk/internal/util/Preconditions" "IOOBE_FORMATTER" "Ljava/util/function/BiFunction;" fi) (hfi : fi.isRef = true) (AO : Arf Z h9 dO kO .byte 100 (fun i => .int (gO i))) (AT : Arf Z h9 dT kT .byte 100 (fun i => .int (gT i))) (S_O : Sta Z h9 "java/lang/Integer" "DigitOnes" "[B" (.ref dO)) (S_T : Sta Z h9 "java/lang/Integer" "DigitTens" "[B" (.ref dT)) (hO : ∀ i, i < 100 → dig (gO i)) (hT : ∀ i, i < 100 → dig (gT i)) (EJ : Exa Z h9 b0 "com/example/half_message_commit/halfmessagecommit/protocol/JsonWriter") (JT : Fld Z h9 b0 "com/example/half_message_commit/halfmessagecommit/protocol/JsonWriter" "text" "Ljava/lang/StringBuilder;" (.ref o)) (BL : Bld Z h9 o b k nn []) (ge_b0 : n0 ≤ b0) (ge_o : n0 ≤ o) (ge_b : n0 ≤ b) (ne_b_o : b ≠ o) (ne_b0_b : b0 ≠ b) (ne_b0_o : b0 ≠ o) (ne_dO_b : dO ≠ b) (ne_dO_b0 : dO ≠ b0) (ne_dO_o : dO ≠ o) (ne_dT_b : dT ≠ b) (ne_dT_b0 : dT ≠ b0) (ne_dT_o : dT ≠ o) (hfl : fl = 0 ∨ fl = 1) (Γ : Cx) (T : State) (G : Ctx Γ Z consts_1 x.cls code maxLocals ret x.name room_1 h0) (X : W Γ n0 T h9 3 65540 (b :: b0 :: [])) : Go Γ n0 (fun v h sf => v = some (.int 1)) T (mkF Γ.m 38 #[.val (.long p0), .second, .val (.int p1), .val (.long p2), .second, .val (.ref b0), .val (.int (4 : Int32)), .val (.int fl), .unset, .unset, .unset] []) := by
  have E := BL.1
  have YA := BL.2.1
  refine k_iload G X at_38 (pc' := 40) rfl rfl ?_
  refine k_if_eq G X at_40 (pc' := 48) rfl (by decide) (pc'' := 43) rfl (fun c40 => (absurd c40 (by decide))) (fun c40 => ?_)
  refine k_aload G X at_43 (pc' := 45) rfl rfl rfl ?_
  replace X := W.addE G X E (by decide) (by decide)
  refine k_callV G X (argsL := []) (rest := []) rfl EJ (w38 hw) (w39 hw) (nf_sel (w41 hw)) (w41 hw) (w40 hw) (w2 hw) (w42 hw) (by decide) (boE hw b0 o b k nn ([] : List Int32) cs  h9 n0 _ EJ JT ⟨ge_o, (List.mem_of_getElem? (i := 0) rfl)⟩ ⟨ge_b, (List.mem_of_getElem? (i := 1) rfl)⟩ O BL S_CS hcs rfl) at_45 pd31 rfl (pc' := 48) rfl rfl (wd := 0) rfl (by decide) (by decide) (by decide) (by decide) (fun T h45 v sf45 X q => ?_)
  obtain ⟨rfl, K45, u45, ku45, cu45, BLn, hu45, ge_u45, mu45⟩ := q
  replace X := W.only X mu45
  have ne_u45_o : u45 ≠ o := BLn.ne
  have ne_dO_u45 : dO ≠ u45 := ne_new hu45 ne_dO_b AO.lt
  have ne_dT_u45 : dT ≠ u45 := ne_new hu45 ne_dT_b AT.lt
  have ne_b0_u45 : b0 ≠ u45 := ne_new hu45 ne_b0_b EJ.lt
  replace S_CS := Sta_keepL S_CS K45 (allS (Pln_exa E) (allS (Pln_exa YA) (all0)))
  replace S_FM := Sta_keepL S_FM K45 (allS (Pln_exa E) (allS (Pln_exa YA) (all0)))
  replace S_FI := Sta_keepL S_FI K45 (allS (Pln_exa E) (allS (Pln_exa YA) (all0)))
  replace S_O := Sta_keepL S_O K45 (allS (Pln_exa E) (allS (Pln_exa YA) (all0)))
  replace S_T := Sta_keepL S_T K45 (allS (Pln_exa E) (allS (Pln_exa YA) (all0)))
  replace O := O.keep K45 (allS ge_o (allS ge_b (all0)))
  replace AO := AO.keep K45 (nin2 ne_dO_o ne_dO_b)
  replace AT := AT.keep K45 (nin2 ne_dT_o ne_dT_b)
  replace EJ := EJ.keep K45
  replace JT := JT.keep K45 (nin2 ne_b0_o ne_b0_b)
  replace E := E.keep K45
  replace YA := YA.keep K45
  have BL : Bld Z _ o u45 ku45 cu45 ([123] : List Int32) := BLn
  have YA := BL.2.1
  show Go Γ n0 _ T (mkF Γ.m 48 #[.val (.long p0), .second, .val (.int p1), .val (.long p2), .second, .val (.ref b0), .val (.int (4 : Int32)), .val (.int fl), .unset, .unset, .unset] [])
  refine k_iload G X at_48 (pc' := 50) rfl rfl ?_
  refine k_iconst G X at_50 (pc' := 51) rfl (z := (2 : Int32)) (by decide) ?_
  refine k_icmp_ne G X at_51 (pc' := 64) rfl (by decide) (pc'' := 54) rfl (fun c51 => ?_) (fun c51 => (absurd c51 (by decide)))
  refine k_iload G X at_64 (pc' := 66) rfl rfl ?_
  refine k_iconst G X at_66 (pc' := 67) rfl (z := (3 : Int32)) (by decide) ?_
  refine k_icmp_ne G X at_67 (pc' := 78) rfl (by decide) (pc'' := 70) rfl (fun c67 => ?_) (fun c67 => (absurd c67 (by decide)))
  refine k_iload G X at_78 (pc' := 80) rfl rfl ?_
  refine k_iconst G X at_80 (pc' := 81) rfl (z := (4 : Int32)) (by decide) ?_
  refine k_icmp_ne G X at_81 (pc' := 99) rfl (by decide) (pc'' := 84) rfl (fun c81 => (absurd c81 (by decide))) (fun c81 => ?_)
  refine k_aload G X at_84 (pc' := 86) rfl rfl rfl ?_
  refine k_ldcH G X (n := 4) (vs := ([97] : List Int32)) (z := 1) (w82 hw) (strAtoms hw) (by decide) ⟨by decide, by decide⟩ (by decide) at_86 (pc' := 88) rfl (by decide) (by decide) (by decide) (by decide) (fun T h86 sa sad k86 E86 Xs Fc Fv Fa hne86 X => ?_)
  replace O := O.ext E86
  replace S_CS := S_CS.ext E86
  replace S_FM := S_FM.ext E86
  replace S_FI := S_FI.ext E86
  replace AO := AO.ext E86
  replace AT := AT.ext E86
  replace S_O := S_O.ext E86
  replace S_T := S_T.ext E86
  replace EJ := EJ.ext E86
  replace JT := JT.ext E86
  replace E := E.ext E86
  replace BL := BL.ext E86
  replace YA := YA.ext E86
  have SA1 : Str Z h86 sa sad k86 1 (fun i => ([97] : List Int32).getD i 0) := ⟨Xs, Fc, Fv, Fa⟩
  have X_sa := Xs
  have ne_u45_sa := (hne86 u45 (List.mem_of_getElem? (i := 0) rfl)).1
  have ne_u45_sad := (hne86 u45 (List.mem_of_getElem? (i := 0) rfl)).2
  have ne_o_sa := (hne86 o (List.mem_of_getElem? (i := 1) rfl)).1
  have ne_o_sad := (hne86 o (List.mem_of_getElem? (i := 1) rfl)).2
  have ne_b_sa := (hne86 b (List.mem_of_getElem? (i := 2) rfl)).1
  have ne_b_sad := (hne86 b (List.mem_of_getElem? (i := 2) rfl)).2
  have ne_b0_sa := (hne86 b0 (List.mem_of_getElem? (i := 3) rfl)).1
  have ne_b0_sad := (hne86 b0 (List.mem_of_getElem? (i := 3) rfl)).2
  refine k_callV G X (argsL := [(.ref sa)]) (rest := []) rfl EJ (w88 hw) (w89 hw) (nf_sel (w91 hw)) (w91 hw) (w90 hw) (w2 hw) (w92 hw) (by decide) (bar hw b0 o u45 ku45 cu45 ([123] : List Int32) cs fm 0 123 sa sad k86 (fun i => ([97] : List Int32).getD i 0) fi h86 n0 _ EJ JT ⟨ge_o, (List.mem_of_getElem? (i := 1) rfl)⟩ ⟨ge_u45, (List.mem_of_getElem? (i := 0) rfl)⟩ O BL S_CS hcs S_FM hfm rfl rfl (by decide) (by decide) (by decide) SA1 rfl (Ne.symm ne_o_sa) (Ne.symm ne_o_sad) (Ne.symm ne_u45_sa) (Ne.symm ne_u45_sad) S_FI hfi (by decide)) at_88 pd21 rfl (pc' := 91) rfl rfl (wd := 0) rfl (by decide) (by decide) (by decide) (by decide) (fun T h88 v sf88 X q => ?_)
  obtain ⟨rfl, K88, u88, ku88, cu88, BLn, hu88, ge_u88, mu88⟩ := q
  replace X := W.only X mu88
  have ne_u88_o : u88 ≠ o := BLn.ne
  have ne_dO_u88 : dO ≠ u88 := ne_new hu88 ne_dO_u45 AO.lt
  have ne_dT_u88 : dT ≠ u88 := ne_new hu88 ne_dT_u45 AT.lt
  have ne_b0_u88 : b0 ≠ u88 := ne_new hu88 ne_b0_u45 EJ.lt
  have ne_sa_u88 : sa ≠ u88 := ne_new hu88 (Ne.symm ne_u45_sa) X_sa.lt
  have ne_sad_u88 : sad ≠ u88 := ne_new hu88 (Ne.symm ne_u45_sad) SA1.lt'
  replace S_CS := Sta_keepL S_CS K88 (allS (Pln_exa E) (allS (Pln_exa YA) (all0)))
  replace S_FM := Sta_keepL S_FM K88 (allS (Pln_exa E) (allS (Pln_exa YA) (all0)))
  replace S_FI := Sta_keepL S_FI K88 (allS (Pln_exa E) (allS (Pln_exa YA) (all0)))
  replace S_O := Sta_keepL S_O K88 (allS (Pln_exa E) (allS (Pln_exa YA) (all0)))
  replace S_T := Sta_keepL S_T K88 (allS (Pln_exa E) (allS (Pln_exa YA) (all0)))
  replace O := O.keep K88 (allS ge_o (allS ge_u45 (all0)))
  replace AO := AO.keep K88 (nin2 ne_dO_o ne_dO_u45)
  replace AT := AT.keep K88 (nin2 ne_dT_o ne_dT_u45)
  replace EJ := EJ.keep K88
  replace JT := JT.keep K88 (nin2 ne_b0_o ne_b0_u45)
  replace E := E.keep K88
  replace YA := YA.keep K88
  replace X_sa := X_sa.keep K88
  replace SA1 := SA1.keep K88 (nin2 (Ne.symm ne_o_sa) (Ne.symm ne_u45_sa)) (nin2 (Ne.symm ne_o_sad) (Ne.symm ne_u45_sad))
  have BL : Bld Z _ o u88 ku88 cu88 ([123, 34, 97, 34, 58, 91] : List Int32) := BLn
  have YA := BL.2.1
  show Go Γ n0 _ T (mkF Γ.m 91 #[.val (.long p0), .second, .val (.int p1), .val (.long p2), .second, .val (.ref b0), .val (.int (4 : Int32)), .val (.int fl), .unset, .unset, .unset] [])
  refine k_aload G X at_91 (pc' := 93) rfl rfl rfl ?_
  refine k_callV G X (argsL := []) (rest := []) rfl EJ (w308 hw) (w309 hw) (nf_sel (w311 hw)) (w311 hw) (w310 hw) (w2 hw) (w312 hw) (by decide) (ea hw b0 o u88 ku88 cu88 ([123, 34, 97, 34, 58, 91] : List Int32) cs  h88 n0 _ EJ JT ⟨ge_o, (List.mem_of_getElem? (i := 2) rfl)⟩ ⟨ge_u88, (List.mem_of_getElem? (i := 0) rfl)⟩ O BL S_CS hcs (by decide)) at_93 pd31 rfl (pc' := 96) rfl rfl (wd := 0) rfl (by decide) (by decide) (by decide) (by decide) (fun T h93 v sf93 X q => ?_)
  obtain ⟨rfl, K93, u93, ku93, cu93, BLn, hu93, ge_u93, mu93⟩ := q
  replace X := W.only X mu93
  have ne_u93_o : u93 ≠ o := BLn.ne
  have ne_dO_u93 : dO ≠ u93 := ne_new hu93 ne_dO_u88 AO.lt
  have ne_dT_u93 : dT ≠ u93 := ne_new hu93 ne_dT_u88 AT.lt
  have ne_b0_u93 : b0 ≠ u93 := ne_new hu93 ne_b0_u88 EJ.lt
  have ne_sa_u93 : sa ≠ u93 := ne_new hu93 ne_sa_u88 X_sa.lt
  have ne_sad_u93 : sad ≠ u93 := ne_new hu93 ne_sad_u88 SA1.lt'
  replace S_CS := Sta_keepL S_CS K93 (allS (Pln_exa E) (allS (Pln_exa YA) (all0)))
  replace S_FM := Sta_keepL S_FM K93 (allS (Pln_exa E) (allS (Pln_exa YA) (all0)))
  replace S_FI := Sta_keepL S_FI K93 (allS (Pln_exa E) (allS (Pln_exa YA) (all0)))
  replace S_O := Sta_keepL S_O K93 (allS (Pln_exa E) (allS (Pln_exa YA) (all0)))
  replace S_T := Sta_keepL S_T K93 (allS (Pln_exa E) (allS (Pln_exa YA) (all0)))
  replace O := O.keep K93 (allS ge_o (allS ge_u88 (all0)))
  replace AO := AO.keep K93 (nin2 ne_dO_o ne_dO_u88)
  replace AT := AT.keep K93 (nin2 ne_dT_o ne_dT_u88)
  replace EJ := EJ.keep K93
  replace JT := JT.keep K93 (nin2 ne_b0_o ne_b0_u88)
  replace E := E.keep K93
  replace X_sa := X_sa.keep K93
  replace SA1 := SA1.keep K93 (nin2 (Ne.symm ne_o_sa) ne_sa_u88) (nin2 (Ne.symm ne_o_sad) ne_sad_u88)
  replace YA := YA.keep K93
  have BL : Bld Z _ o u93 ku93 cu93 ([123, 34, 97, 34, 58, 91, 93] : List Int32) := BLn
  have YA := BL.2.1
  show Go Γ n0 _ T (mkF Γ.m 96 #[.val (.long p0), .second, .val (.int p1), .val (.long p2), .second, .val (.ref b0), .val (.int (4 : Int32)), .val (.int fl), .unset, .unset, .unset] [])
  refine k_goto G X at_96 (by decide) (pc' := 153) rfl ?_
  refine k_aload G X at_153 (pc' := 155) rfl rfl rfl ?_
  refine k_callV G X (argsL := []) (rest := []) rfl EJ (w206 hw) (w207 hw) (nf_sel (w209 hw)) (w209 hw) (w208 hw) (w2 hw) (w210 hw) (by decide) (jtext hw b0 o u93 ku93 cu93 ([123, 34, 97, 34, 58, 91, 93] : List Int32) cs h93 n0 _ EJ JT ⟨ge_o, (List.mem_of_getElem? (i := 3) rfl)⟩ ⟨ge_u93, (List.mem_of_getElem? (i := 0) rfl)⟩ O BL S_CS hcs (by decide)) at_155 pd36 rfl (pc' := 158) rfl rfl (wd := 0) rfl (by decide) (by decide) (by decide) (by decide) (fun T h155 v sf155 X q => ?_)
  obtain ⟨s155, r155, k155, rfl, sz_s155, sz_r155, K155, T155, ms155⟩ := q
  replace X := W.only X ms155
  have ne_dO_s155 : dO ≠ s155 := Nat.ne_of_lt (Nat.lt_of_lt_of_le AO.lt sz_s155)
  have ne_dT_s155 : dT ≠ s155 := Nat.ne_of_lt (Nat.lt_of_lt_of_le AT.lt sz_s155)
  have ne_b0_s155 : b0 ≠ s155 := Nat.ne_of_lt (Nat.lt_of_lt_of_le EJ.lt sz_s155)
  have ne_o_s155 : o ≠ s155 := Nat.ne_of_lt (Nat.lt_of_lt_of_le E.lt sz_s155)
  have ne_sa_s155 : sa ≠ s155 := Nat.ne_of_lt (Nat.lt_of_lt_of_le X_sa.lt sz_s155)
  have ne_sad_s155 : sad ≠ s155 := Nat.ne_of_lt (Nat.lt_of_lt_of_le SA1.lt' sz_s155)
  have ne_u93_s155 : u93 ≠ s155 := Nat.ne_of_lt (Nat.lt_of_lt_of_le BL.lt' sz_s155)
  have ne_dO_r155 : dO ≠ r155 := Nat.ne_of_lt (Nat.lt_of_lt_of_le AO.lt sz_r155)
  have ne_dT_r155 : dT ≠ r155 := Nat.ne_of_lt (Nat.lt_of_lt_of_le AT.lt sz_r155)
  have ne_b0_r155 : b0 ≠ r155 := Nat.ne_of_lt (Nat.lt_of_lt_of_le EJ.lt sz_r155)
  have ne_o_r155 : o ≠ r155 := Nat.ne_of_lt (Nat.lt_of_lt_of_le E.lt sz_r155)
  have ne_sa_r155 : sa ≠ r155 := Nat.ne_of_lt (Nat.lt_of_lt_of_le X_sa.lt sz_r155)
  have ne_sad_r155 : sad ≠ r155 := Nat.ne_of_lt (Nat.lt_of_lt_of_le SA1.lt' sz_r155)
  have ne_u93_r155 : u93 ≠ r155 := Nat.ne_of_lt (Nat.lt_of_lt_of_le BL.lt' sz_r155)
  replace S_CS := Jvm.OwnK.Sta_keep S_CS K155
  replace S_FM := Jvm.OwnK.Sta_keep S_FM K155
  replace S_FI := Jvm.OwnK.Sta_keep S_FI K155
  replace S_O := Jvm.OwnK.Sta_keep S_O K155
  replace S_T := Jvm.OwnK.Sta_keep S_T K155
  replace O := O.keep K155 (all0)
  replace AO := AO.keep K155 nin0
  replace AT := AT.keep K155 nin0
  replace EJ := EJ.keep K155
  replace JT := JT.keep K155 nin0
  replace E := E.keep K155
  replace X_sa := X_sa.keep K155
  replace SA1 := SA1.keep K155 nin0 nin0
  replace BL := BL.keep K155 nin0 nin0
  replace YA := YA.keep K155
  have T155 : Str Z _ s155 r155 k155 7 (fun i => ([123, 34, 97, 34, 58, 91, 93] : List Int32).getD i 0) := T155
  have X_s155 := T155.1
  show Go Γ n0 _ T (mkF Γ.m 158 #[.val (.long p0), .second, .val (.int p1), .val (.long p2), .second, .val (.ref b0), .val (.int (4 : Int32)), .val (.int fl), .unset, .unset, .unset] [(.ref s155)])
  refine k_astore G X at_158 (pc' := 160) rfl rfl (l' := #[.val (.long p0), .second, .val (.int p1), .val (.long p2), .second, .val (.ref b0), .val (.int (4 : Int32)), .val (.int fl), .val (.ref s155), .unset, .unset]) rfl ?_
  refine k_aload G X at_160 (pc' := 162) rfl rfl rfl ?_
  refine k_callV G X (argsL := []) (rest := []) rfl EJ (w38 hw) (w39 hw) (nf_sel (w41 hw)) (w41 hw) (w40 hw) (w2 hw) (w42 hw) (by decide) (boC hw b0 o u93 ku93 cu93 ([123, 34, 97, 34, 58, 91, 93] : List Int32) cs fm 6 93 h155 n0 _ EJ JT ⟨ge_o, (List.mem_of_getElem? (i := 4) rfl)⟩ ⟨ge_u93, (List.mem_of_getElem? (i := 1) rfl)⟩ O BL S_CS hcs S_FM hfm rfl rfl (by decide) (by decide) (by decide) (by decide) (by decide)) at_162 pd31 rfl (pc' := 165) rfl rfl (wd := 0) rfl (by decide) (by decide) (by decide) (by decide) (fun T h162 v sf162 X q => ?_)
  obtain ⟨rfl, K162, u162, ku162, cu162, BLn, hu162, ge_u162, mu162⟩ := q
  replace X := W.only X mu162
  have ne_u162_o : u162 ≠ o := BLn.ne
  have ne_dO_u162 : dO ≠ u162 := ne_new hu162 ne_dO_u93 AO.lt
  have ne_dT_u162 : dT ≠ u162 := ne_new hu162 ne_dT_u93 AT.lt
  have ne_b0_u162 : b0 ≠ u162 := ne_new hu162 ne_b0_u93 EJ.lt
  have ne_sa_u162 : sa ≠ u162 := ne_new hu162 ne_sa_u93 X_sa.lt
  have ne_sad_u162 : sad ≠ u162 := ne_new hu162 ne_sad_u93 SA1.lt'
  have ne_s155_u162 : s155 ≠ u162 := ne_new hu162 (Ne.symm ne_u93_s155) T155.lt
  have ne_r155_u162 : r155 ≠ u162 := ne_new hu162 (Ne.symm ne_u93_r155) T155.lt'
  replace S_CS := Sta_keepL S_CS K162 (allS (Pln_exa E) (allS (Pln_exa YA) (all0)))
  replace S_FM := Sta_keepL S_FM K162 (allS (Pln_exa E) (allS (Pln_exa YA) (all0)))
  replace S_FI := Sta_keepL S_FI K162 (allS (Pln_exa E) (allS (Pln_exa YA) (all0)))
  replace S_O := Sta_keepL S_O K162 (allS (Pln_exa E) (allS (Pln_exa YA) (all0)))
  replace S_T := Sta_keepL S_T K162 (allS (Pln_exa E) (allS (Pln_exa YA) (all0)))
  replace O := O.keep K162 (allS ge_o (allS ge_u93 (all0)))
  replace AO := AO.keep K162 (nin2 ne_dO_o ne_dO_u93)
  replace AT := AT.keep K162 (nin2 ne_dT_o ne_dT_u93)
  replace EJ := EJ.keep K162
  replace JT := JT.keep K162 (nin2 ne_b0_o ne_b0_u93)
  replace E := E.keep K162
  replace X_sa := X_sa.keep K162
  replace SA1 := SA1.keep K162 (nin2 (Ne.symm ne_o_sa) ne_sa_u93) (nin2 (Ne.symm ne_o_sad) ne_sad_u93)
  replace YA := YA.keep K162
  replace T155 := T155.keep K162 (nin2 (Ne.symm ne_o_s155) (Ne.symm ne_u93_s155)) (nin2 (Ne.symm ne_o_r155) (Ne.symm ne_u93_r155))
  replace X_s155 := X_s155.keep K162
  have BL : Bld Z _ o u162 ku162 cu162 ([123, 34, 97, 34, 58, 91, 93, 44, 123] : List Int32) := BLn
  have YA := BL.2.1
  show Go Γ n0 _ T (mkF Γ.m 165 #[.val (.long p0), .second, .val (.int p1), .val (.long p2), .second, .val (.ref b0), .val (.int (4 : Int32)), .val (.int fl), .val (.ref s155), .unset, .unset] [])
  refine k_aload G X at_165 (pc' := 167) rfl rfl rfl ?_
  refine k_callV G X (argsL := []) (rest := []) rfl EJ (w206 hw) (w207 hw) (nf_sel (w209 hw)) (w209 hw) (w208 hw) (w2 hw) (w210 hw) (by decide) (jtext hw b0 o u162 ku162 cu162 ([123, 34, 97, 34, 58, 91, 93, 44, 123] : List Int32) cs h162 n0 _ EJ JT ⟨ge_o, (List.mem_of_getElem? (i := 5) rfl)⟩ ⟨ge_u162, (List.mem_of_getElem? (i := 0) rfl)⟩ O BL S_CS hcs (by decide)) at_167 pd36 rfl (pc' := 170) rfl rfl (wd := 0) rfl (by decide) (by decide) (by decide) (by decide) (fun T h167 v sf167 X q => ?_)
  obtain ⟨s167, r167, k167, rfl, sz_s167, sz_r167, K167, T167, ms167⟩ := q
  replace X := W.only X ms167
  have ne_dO_s167 : dO ≠ s167 := Nat.ne_of_lt (Nat.lt_of_lt_of_le AO.lt sz_s167)
  have ne_dT_s167 : dT ≠ s167 := Nat.ne_of_lt (Nat.lt_of_lt_of_le AT.lt sz_s167)
  have ne_b0_s167 : b0 ≠ s167 := Nat.ne_of_lt (Nat.lt_of_lt_of_le EJ.lt sz_s167)
  have ne_o_s167 : o ≠ s167 := Nat.ne_of_lt (Nat.lt_of_lt_of_le E.lt sz_s167)
  have ne_sa_s167 : sa ≠ s167 := Nat.ne_of_lt (Nat.lt_of_lt_of_le X_sa.lt sz_s167)
  have ne_sad_s167 : sad ≠ s167 := Nat.ne_of_lt (Nat.lt_of_lt_of_le SA1.lt' sz_s167)
  have ne_s155_s167 : s155 ≠ s167 := Nat.ne_of_lt (Nat.lt_of_lt_of_le T155.lt sz_s167)
  have ne_r155_s167 : r155 ≠ s167 := Nat.ne_of_lt (Nat.lt_of_lt_of_le T155.lt' sz_s167)
  have ne_u162_s167 : u162 ≠ s167 := Nat.ne_of_lt (Nat.lt_of_lt_of_le BL.lt' sz_s167)
  have ne_dO_r167 : dO ≠ r167 := Nat.ne_of_lt (Nat.lt_of_lt_of_le AO.lt sz_r167)
  have ne_dT_r167 : dT ≠ r167 := Nat.ne_of_lt (Nat.lt_of_lt_of_le AT.lt sz_r167)
  have ne_b0_r167 : b0 ≠ r167 := Nat.ne_of_lt (Nat.lt_of_lt_of_le EJ.lt sz_r167)
  have ne_o_r167 : o ≠ r167 := Nat.ne_of_lt (Nat.lt_of_lt_of_le E.lt sz_r167)
  have ne_sa_r167 : sa ≠ r167 := Nat.ne_of_lt (Nat.lt_of_lt_of_le X_sa.lt sz_r167)
  have ne_sad_r167 : sad ≠ r167 := Nat.ne_of_lt (Nat.lt_of_lt_of_le SA1.lt' sz_r167)
  have ne_s155_r167 : s155 ≠ r167 := Nat.ne_of_lt (Nat.lt_of_lt_of_le T155.lt sz_r167)
  have ne_r155_r167 : r155 ≠ r167 := Nat.ne_of_lt (Nat.lt_of_lt_of_le T155.lt' sz_r167)
  have ne_u162_r167 : u162 ≠ r167 := Nat.ne_of_lt (Nat.lt_of_lt_of_le BL.lt' sz_r167)
  replace S_CS := Jvm.OwnK.Sta_keep S_CS K167
  replace S_FM := Jvm.OwnK.Sta_keep S_FM K167
  replace S_FI := Jvm.OwnK.Sta_keep S_FI K167
  replace S_O := Jvm.OwnK.Sta_keep S_O K167
  replace S_T := Jvm.OwnK.Sta_keep S_T K167
  replace O := O.keep K167 (all0)
  replace AO := AO.keep K167 nin0
  replace AT := AT.keep K167 nin0
  replace EJ := EJ.keep K167
  replace JT := JT.keep K167 nin0
  replace E := E.keep K167
  replace X_sa := X_sa.keep K167
  replace SA1 := SA1.keep K167 nin0 nin0
  replace T155 := T155.keep K167 nin0 nin0
  replace X_s155 := X_s155.keep K167
  replace BL := BL.keep K167 nin0 nin0
  replace YA := YA.keep K167
  have T167 : Str Z _ s167 r167 k167 9 (fun i => ([123, 34, 97, 34, 58, 91, 93, 44, 123] : List Int32).getD i 0) := T167
  have X_s167 := T167.1
  show Go Γ n0 _ T (mkF Γ.m 170 #[.val (.long p0), .second, .val (.int p1), .val (.long p2), .second, .val (.ref b0), .val (.int (4 : Int32)), .val (.int fl), .val (.ref s155), .unset, .unset] [(.ref s167)])
  refine k_astore G X at_170 (pc' := 172) rfl rfl (l' := #[.val (.long p0), .second, .val (.int p1), .val (.long p2), .second, .val (.ref b0), .val (.int (4 : Int32)), .val (.int fl), .val (.ref s155), .val (.ref s167), .unset]) rfl ?_
  refine k_iload G X at_172 (pc' := 174) rfl rfl ?_
  refine k_if_ne G X at_174 (pc' := 185) rfl (by decide) (pc'' := 177) rfl (fun c174 => ?_) (fun c174 => (absurd c174 (by decide)))
  refine k_iload G X at_185 (pc' := 187) rfl rfl ?_
  refine k_iconst G X at_187 (pc' := 188) rfl (z := (1 : Int32)) (by decide) ?_
  refine k_icmp_ne G X at_188 (pc' := 199) rfl (by decide) (pc'' := 191) rfl (fun c188 => ?_) (fun c188 => (absurd c188 (by decide)))
  refine k_iload G X at_199 (pc' := 201) rfl rfl ?_
  refine k_iconst G X at_201 (pc' := 202) rfl (z := (2 : Int32)) (by decide) ?_
  refine k_icmp_ne G X at_202 (pc' := 213) rfl (by decide) (pc'' := 205) rfl (fun c202 => ?_) (fun c202 => (absurd c202 (by decide)))
  refine k_iload G X at_213 (pc' := 215) rfl rfl ?_
  refine k_iconst G X at_215 (pc' := 216) rfl (z := (3 : Int32)) (by decide) ?_
  refine k_icmp_ne G X at_216 (pc' := 227) rfl (by decide) (pc'' := 219) rfl (fun c216 => ?_) (fun c216 => (absurd c216 (by decide)))
  refine k_iload G X at_227 (pc' := 229) rfl rfl ?_
  refine k_iconst G X at_229 (pc' := 230) rfl (z := (4 : Int32)) (by decide) ?_
  refine k_icmp_ne G X at_230 (pc' := 241) rfl (by decide) (pc'' := 233) rfl (fun c230 => (absurd c230 (by decide))) (fun c230 => ?_)
  refine k_aload G X at_233 (pc' := 235) rfl rfl rfl ?_
  refine k_ldcH G X (n := 36) (vs := ([123, 34, 97, 34, 58, 91, 93, 44, 123] : List Int32)) (z := 9) (w313 hw) (strAtoms hw) (by decide) ⟨by decide, by decide⟩ (by decide) at_235 (pc' := 237) rfl (by decide) (by decide) (by decide) (by decide) (fun T h235 sk skd k235 E235 Xs Fc Fv Fa hne235 X => ?_)
  replace O := O.ext E235
  replace S_CS := S_CS.ext E235
  replace S_FM := S_FM.ext E235
  replace S_FI := S_FI.ext E235
  replace AO := AO.ext E235
  replace AT := AT.ext E235
  replace S_O := S_O.ext E235
  replace S_T := S_T.ext E235
  replace EJ := EJ.ext E235
  replace JT := JT.ext E235
  replace E := E.ext E235
  replace X_sa := X_sa.ext E235
  replace SA1 := SA1.ext E235
  replace T155 := T155.ext E235
  replace X_s155 := X_s155.ext E235
  replace BL := BL.ext E235
  replace YA := YA.ext E235
  replace T167 := T167.ext E235
  replace X_s167 := X_s167.ext E235
  have SK : Str Z h235 sk skd k235 9 (fun i => ([123, 34, 97, 34, 58, 91, 93, 44, 123] : List Int32).getD i 0) := ⟨Xs, Fc, Fv, Fa⟩
  have X_sk := Xs
  have ne_s167_sk := (hne235 s167 (List.mem_of_getElem? (i := 0) rfl)).1
  have ne_s167_skd := (hne235 s167 (List.mem_of_getElem? (i := 0) rfl)).2
  have ne_u162_sk := (hne235 u162 (List.mem_of_getElem? (i := 1) rfl)).1
  have ne_u162_skd := (hne235 u162 (List.mem_of_getElem? (i := 1) rfl)).2
  have ne_s155_sk := (hne235 s155 (List.mem_of_getElem? (i := 2) rfl)).1
  have ne_s155_skd := (hne235 s155 (List.mem_of_getElem? (i := 2) rfl)).2
  have ne_u93_sk := (hne235 u93 (List.mem_of_getElem? (i := 3) rfl)).1
  have ne_u93_skd := (hne235 u93 (List.mem_of_getElem? (i := 3) rfl)).2
  have ne_u88_sk := (hne235 u88 (List.mem_of_getElem? (i := 4) rfl)).1
  have ne_u88_skd := (hne235 u88 (List.mem_of_getElem? (i := 4) rfl)).2
  have ne_u45_sk := (hne235 u45 (List.mem_of_getElem? (i := 5) rfl)).1
  have ne_u45_skd := (hne235 u45 (List.mem_of_getElem? (i := 5) rfl)).2
  have ne_o_sk := (hne235 o (List.mem_of_getElem? (i := 6) rfl)).1
  have ne_o_skd := (hne235 o (List.mem_of_getElem? (i := 6) rfl)).2
  have ne_b_sk := (hne235 b (List.mem_of_getElem? (i := 7) rfl)).1
  have ne_b_skd := (hne235 b (List.mem_of_getElem? (i := 7) rfl)).2
  have ne_b0_sk := (hne235 b0 (List.mem_of_getElem? (i := 8) rfl)).1
  have ne_b0_skd := (hne235 b0 (List.mem_of_getElem? (i := 8) rfl)).2
  refine k_callV G X (argsL := [(.ref sk)]) (rest := []) rfl X_s167 (w242 hw) (w243 hw) (nf_sel (w245 hw)) (w245 hw) (w244 hw) (w29 hw) (w246 hw) (by decide) (str_eq hw s167 sk r167 skd k167 k235 9 9 cs _ _ h235 n0 _ T167 SK ne_s167_sk S_CS hcs) at_237 pd39 rfl (pc' := 240) rfl rfl (wd := 0) rfl (by decide) (by decide) (by decide) (by decide) (fun T h237 v sf237 X q => ?_)
  replace X := W.drop X
  obtain ⟨r, rfl, hr, hi, e237⟩ := q
  replace X := X.eq e237
  obtain rfl : (1 : Int32) = r := (hi.mpr ⟨rfl, fun i _ => rfl⟩).symm
  show Go Γ n0 _ T (mkF Γ.m 240 #[.val (.long p0), .second, .val (.int p1), .val (.long p2), .second, .val (.ref b0), .val (.int (4 : Int32)), .val (.int fl), .val (.ref s155), .val (.ref s167), .unset] [(.int (1 : Int32))])
  refine k_retb G X at_240 (t := .boolean) rfl (by simp) rfl ?_ (by decide) (by decide)
  rfl
set_option maxRecDepth 65536 in
set_option maxHeartbeats 40000000 in
theorem md5 {Z : State} {a0 : Array Value} (hw : HW a0 Z) (p0 : Int64) (p1 cs : Int32) (p2 : Int64) (fm fi : Value) (dO dT : Addr) (kO kT : ClassId) (gO gT : Nat → Int32) (b0 o b : Addr) (k : ClassId) (nn : Nat) (fl : Int32) (h0 h9 : Heap) (n0 : Nat) (O : Old Z n0 h9) (S_CS : Sta Z h9 "java/lang/String" "COMPACT_STRINGS" "Z" (.int cs)) (hcs : cs ≠ 0) (S_FM : Sta Z h9 "jdk/internal/util/Preconditions" "SIOOBE_FORMATTER" "Ljava/util/function/BiFunction;" fm) (hfm : fm.isRef = true) (S_FI : Sta Z h9 "jdk/internal/util/Preconditions" "IOOBE_FORMATTER" "Ljava/util/function/BiFunction;" fi) (hfi : fi.isRef = true) (AO : Arf Z h9 dO kO .byte 100 (fun i => .int (gO i))) (AT : Arf Z h9 dT kT .byte 100 (fun i => .int (gT i))) (S_O : Sta Z h9 "java/lang/Integer" "DigitOnes" "[B" (.ref dO)) (S_T : Sta Z h9 "java/lang/Integer" "DigitTens" "[B" (.ref dT)) (hO : ∀ i, i < 100 → dig (gO i)) (hT : ∀ i, i < 100 → dig (gT i)) (EJ : Exa Z h9 b0 "com/example/half_message_commit/halfmessagecommit/protocol/JsonWriter") (JT : Fld Z h9 b0 "com/example/half_message_commit/halfmessagecommit/protocol/JsonWriter" "text" "Ljava/lang/StringBuilder;" (.ref o)) (BL : Bld Z h9 o b k nn []) (ge_b0 : n0 ≤ b0) (ge_o : n0 ≤ o) (ge_b : n0 ≤ b) (ne_b_o : b ≠ o) (ne_b0_b : b0 ≠ b) (ne_b0_o : b0 ≠ o) (ne_dO_b : dO ≠ b) (ne_dO_b0 : dO ≠ b0) (ne_dO_o : dO ≠ o) (ne_dT_b : dT ≠ b) (ne_dT_b0 : dT ≠ b0) (ne_dT_o : dT ≠ o) (hfl : fl = 0 ∨ fl = 1) (Γ : Cx) (T : State) (G : Ctx Γ Z consts_1 x.cls code maxLocals ret x.name room_1 h0) (X : W Γ n0 T h9 3 65540 (b :: b0 :: [])) : Go Γ n0 (fun v h sf => v = some (.int 1)) T (mkF Γ.m 38 #[.val (.long p0), .second, .val (.int p1), .val (.long p2), .second, .val (.ref b0), .val (.int (5 : Int32)), .val (.int fl), .unset, .unset, .unset] []) := by
  have E := BL.1
  have YA := BL.2.1
  refine k_iload G X at_38 (pc' := 40) rfl rfl ?_
  refine k_if_eq G X at_40 (pc' := 48) rfl (by decide) (pc'' := 43) rfl (fun c40 => (absurd c40 (by decide))) (fun c40 => ?_)
  refine k_aload G X at_43 (pc' := 45) rfl rfl rfl ?_
  replace X := W.addE G X E (by decide) (by decide)
  refine k_callV G X (argsL := []) (rest := []) rfl EJ (w38 hw) (w39 hw) (nf_sel (w41 hw)) (w41 hw) (w40 hw) (w2 hw) (w42 hw) (by decide) (boE hw b0 o b k nn ([] : List Int32) cs  h9 n0 _ EJ JT ⟨ge_o, (List.mem_of_getElem? (i := 0) rfl)⟩ ⟨ge_b, (List.mem_of_getElem? (i := 1) rfl)⟩ O BL S_CS hcs rfl) at_45 pd31 rfl (pc' := 48) rfl rfl (wd := 0) rfl (by decide) (by decide) (by decide) (by decide) (fun T h45 v sf45 X q => ?_)
  obtain ⟨rfl, K45, u45, ku45, cu45, BLn, hu45, ge_u45, mu45⟩ := q
  replace X := W.only X mu45
  have ne_u45_o : u45 ≠ o := BLn.ne
  have ne_dO_u45 : dO ≠ u45 := ne_new hu45 ne_dO_b AO.lt
  have ne_dT_u45 : dT ≠ u45 := ne_new hu45 ne_dT_b AT.lt
  have ne_b0_u45 : b0 ≠ u45 := ne_new hu45 ne_b0_b EJ.lt
  replace S_CS := Sta_keepL S_CS K45 (allS (Pln_exa E) (allS (Pln_exa YA) (all0)))
  replace S_FM := Sta_keepL S_FM K45 (allS (Pln_exa E) (allS (Pln_exa YA) (all0)))
  replace S_FI := Sta_keepL S_FI K45 (allS (Pln_exa E) (allS (Pln_exa YA) (all0)))
  replace S_O := Sta_keepL S_O K45 (allS (Pln_exa E) (allS (Pln_exa YA) (all0)))
  replace S_T := Sta_keepL S_T K45 (allS (Pln_exa E) (allS (Pln_exa YA) (all0)))
  replace O := O.keep K45 (allS ge_o (allS ge_b (all0)))
  replace AO := AO.keep K45 (nin2 ne_dO_o ne_dO_b)
  replace AT := AT.keep K45 (nin2 ne_dT_o ne_dT_b)
  replace EJ := EJ.keep K45
  replace JT := JT.keep K45 (nin2 ne_b0_o ne_b0_b)
  replace E := E.keep K45
  replace YA := YA.keep K45
  have BL : Bld Z _ o u45 ku45 cu45 ([123] : List Int32) := BLn
  have YA := BL.2.1
  show Go Γ n0 _ T (mkF Γ.m 48 #[.val (.long p0), .second, .val (.int p1), .val (.long p2), .second, .val (.ref b0), .val (.int (5 : Int32)), .val (.int fl), .unset, .unset, .unset] [])
  refine k_iload G X at_48 (pc' := 50) rfl rfl ?_
  refine k_iconst G X at_50 (pc' := 51) rfl (z := (2 : Int32)) (by decide) ?_
  refine k_icmp_ne G X at_51 (pc' := 64) rfl (by decide) (pc'' := 54) rfl (fun c51 => ?_) (fun c51 => (absurd c51 (by decide)))
  refine k_iload G X at_64 (pc' := 66) rfl rfl ?_
  refine k_iconst G X at_66 (pc' := 67) rfl (z := (3 : Int32)) (by decide) ?_
  refine k_icmp_ne G X at_67 (pc' := 78) rfl (by decide) (pc'' := 70) rfl (fun c67 => ?_) (fun c67 => (absurd c67 (by decide)))
  refine k_iload G X at_78 (pc' := 80) rfl rfl ?_
  refine k_iconst G X at_80 (pc' := 81) rfl (z := (4 : Int32)) (by decide) ?_
  refine k_icmp_ne G X at_81 (pc' := 99) rfl (by decide) (pc'' := 84) rfl (fun c81 => ?_) (fun c81 => (absurd c81 (by decide)))
  refine k_iload G X at_99 (pc' := 101) rfl rfl ?_
  refine k_iconst G X at_101 (pc' := 102) rfl (z := (5 : Int32)) (by decide) ?_
  refine k_icmp_ne G X at_102 (pc' := 117) rfl (by decide) (pc'' := 105) rfl (fun c102 => (absurd c102 (by decide))) (fun c102 => ?_)
  rcases hfl with rfl | rfl
  · refine k_aload G X at_105 (pc' := 107) rfl rfl rfl ?_
    refine k_ldcH G X (n := 4) (vs := ([97] : List Int32)) (z := 1) (w82 hw) (strAtoms hw) (by decide) ⟨by decide, by decide⟩ (by decide) at_107 (pc' := 109) rfl (by decide) (by decide) (by decide) (by decide) (fun T h107 sa sad k107 E107 Xs Fc Fv Fa hne107 X => ?_)
    replace O := O.ext E107
    replace S_CS := S_CS.ext E107
    replace S_FM := S_FM.ext E107
    replace S_FI := S_FI.ext E107
    replace AO := AO.ext E107
    replace AT := AT.ext E107
    replace S_O := S_O.ext E107
    replace S_T := S_T.ext E107
    replace EJ := EJ.ext E107
    replace JT := JT.ext E107
    replace E := E.ext E107
    replace BL := BL.ext E107
    replace YA := YA.ext E107
    have SA1 : Str Z h107 sa sad k107 1 (fun i => ([97] : List Int32).getD i 0) := ⟨Xs, Fc, Fv, Fa⟩
    have X_sa := Xs
    have ne_u45_sa := (hne107 u45 (List.mem_of_getElem? (i := 0) rfl)).1
    have ne_u45_sad := (hne107 u45 (List.mem_of_getElem? (i := 0) rfl)).2
    have ne_o_sa := (hne107 o (List.mem_of_getElem? (i := 1) rfl)).1
    have ne_o_sad := (hne107 o (List.mem_of_getElem? (i := 1) rfl)).2
    have ne_b_sa := (hne107 b (List.mem_of_getElem? (i := 2) rfl)).1
    have ne_b_sad := (hne107 b (List.mem_of_getElem? (i := 2) rfl)).2
    have ne_b0_sa := (hne107 b0 (List.mem_of_getElem? (i := 3) rfl)).1
    have ne_b0_sad := (hne107 b0 (List.mem_of_getElem? (i := 3) rfl)).2
    refine k_iload G X at_109 (pc' := 111) rfl rfl ?_
    refine k_callV G X (argsL := [(.ref sa), (.int (0 : Int32))]) (rest := []) rfl EJ (w293 hw) (w294 hw) (nf_sel (w296 hw)) (w296 hw) (w295 hw) (w2 hw) (w297 hw) (by decide) (mz0 hw b0 o u45 ku45 cu45 ([123] : List Int32) cs fm 0 123 sa sad k107 (fun i => ([97] : List Int32).getD i 0) fi h107 n0 _ EJ JT ⟨ge_o, (List.mem_of_getElem? (i := 1) rfl)⟩ ⟨ge_u45, (List.mem_of_getElem? (i := 0) rfl)⟩ O BL S_CS hcs S_FM hfm rfl rfl (by decide) (by decide) (by decide) SA1 rfl (Ne.symm ne_o_sa) (Ne.symm ne_o_sad) (Ne.symm ne_u45_sa) (Ne.symm ne_u45_sad) S_FI hfi (by decide)) at_111 pd40 rfl (pc' := 114) rfl rfl (wd := 0) rfl (by decide) (by decide) (by decide) (by decide) (fun T h111 v sf111 X q => ?_)
    obtain ⟨rfl, K111, u111, ku111, cu111, BLn, hu111, ge_u111, mu111⟩ := q
    replace X := W.only X mu111
    have ne_u111_o : u111 ≠ o := BLn.ne
    have ne_dO_u111 : dO ≠ u111 := ne_new hu111 ne_dO_u45 AO.lt
    have ne_dT_u111 : dT ≠ u111 := ne_new hu111 ne_dT_u45 AT.lt
    have ne_b0_u111 : b0 ≠ u111 := ne_new hu111 ne_b0_u45 EJ.lt
    have ne_sa_u111 : sa ≠ u111 := ne_new hu111 (Ne.symm ne_u45_sa) X_sa.lt
    have ne_sad_u111 : sad ≠ u111 := ne_new hu111 (Ne.symm ne_u45_sad) SA1.lt'
    replace S_CS := Sta_keepL S_CS K111 (allS (Pln_exa E) (allS (Pln_exa YA) (all0)))
    replace S_FM := Sta_keepL S_FM K111 (allS (Pln_exa E) (allS (Pln_exa YA) (all0)))
    replace S_FI := Sta_keepL S_FI K111 (allS (Pln_exa E) (allS (Pln_exa YA) (all0)))
    replace S_O := Sta_keepL S_O K111 (allS (Pln_exa E) (allS (Pln_exa YA) (all0)))
    replace S_T := Sta_keepL S_T K111 (allS (Pln_exa E) (allS (Pln_exa YA) (all0)))
    replace O := O.keep K111 (allS ge_o (allS ge_u45 (all0)))
    replace AO := AO.keep K111 (nin2 ne_dO_o ne_dO_u45)
    replace AT := AT.keep K111 (nin2 ne_dT_o ne_dT_u45)
    replace EJ := EJ.keep K111
    replace JT := JT.keep K111 (nin2 ne_b0_o ne_b0_u45)
    replace E := E.keep K111
    replace YA := YA.keep K111
    replace X_sa := X_sa.keep K111
    replace SA1 := SA1.keep K111 (nin2 (Ne.symm ne_o_sa) (Ne.symm ne_u45_sa)) (nin2 (Ne.symm ne_o_sad) (Ne.symm ne_u45_sad))
    have BL : Bld Z _ o u111 ku111 cu111 ([123, 34, 97, 34, 58, 102, 97, 108, 115, 101] : List Int32) := BLn
    have YA := BL.2.1
    show Go Γ n0 _ T (mkF Γ.m 114 #[.val (.long p0), .second, .val (.int p1), .val (.long p2), .second, .val (.ref b0), .val (.int (5 : Int32)), .val (.int (0 : Int32)), .unset, .unset, .unset] [])
    refine k_goto G X at_114 (by decide) (pc' := 153) rfl ?_
    refine k_aload G X at_153 (pc' := 155) rfl rfl rfl ?_
    refine k_callV G X (argsL := []) (rest := []) rfl EJ (w206 hw) (w207 hw) (nf_sel (w209 hw)) (w209 hw) (w208 hw) (w2 hw) (w210 hw) (by decide) (jtext hw b0 o u111 ku111 cu111 ([123, 34, 97, 34, 58, 102, 97, 108, 115, 101] : List Int32) cs h111 n0 _ EJ JT ⟨ge_o, (List.mem_of_getElem? (i := 2) rfl)⟩ ⟨ge_u111, (List.mem_of_getElem? (i := 0) rfl)⟩ O BL S_CS hcs (by decide)) at_155 pd36 rfl (pc' := 158) rfl rfl (wd := 0) rfl (by decide) (by decide) (by decide) (by decide) (fun T h155 v sf155 X q => ?_)
    obtain ⟨s155, r155, k155, rfl, sz_s155, sz_r155, K155, T155, ms155⟩ := q
    replace X := W.only X ms155
    have ne_dO_s155 : dO ≠ s155 := Nat.ne_of_lt (Nat.lt_of_lt_of_le AO.lt sz_s155)
    have ne_dT_s155 : dT ≠ s155 := Nat.ne_of_lt (Nat.lt_of_lt_of_le AT.lt sz_s155)
    have ne_b0_s155 : b0 ≠ s155 := Nat.ne_of_lt (Nat.lt_of_lt_of_le EJ.lt sz_s155)
    have ne_o_s155 : o ≠ s155 := Nat.ne_of_lt (Nat.lt_of_lt_of_le E.lt sz_s155)
    have ne_sa_s155 : sa ≠ s155 := Nat.ne_of_lt (Nat.lt_of_lt_of_le X_sa.lt sz_s155)
    have ne_sad_s155 : sad ≠ s155 := Nat.ne_of_lt (Nat.lt_of_lt_of_le SA1.lt' sz_s155)
    have ne_u111_s155 : u111 ≠ s155 := Nat.ne_of_lt (Nat.lt_of_lt_of_le BL.lt' sz_s155)
    have ne_dO_r155 : dO ≠ r155 := Nat.ne_of_lt (Nat.lt_of_lt_of_le AO.lt sz_r155)
    have ne_dT_r155 : dT ≠ r155 := Nat.ne_of_lt (Nat.lt_of_lt_of_le AT.lt sz_r155)
    have ne_b0_r155 : b0 ≠ r155 := Nat.ne_of_lt (Nat.lt_of_lt_of_le EJ.lt sz_r155)
    have ne_o_r155 : o ≠ r155 := Nat.ne_of_lt (Nat.lt_of_lt_of_le E.lt sz_r155)
    have ne_sa_r155 : sa ≠ r155 := Nat.ne_of_lt (Nat.lt_of_lt_of_le X_sa.lt sz_r155)
    have ne_sad_r155 : sad ≠ r155 := Nat.ne_of_lt (Nat.lt_of_lt_of_le SA1.lt' sz_r155)
    have ne_u111_r155 : u111 ≠ r155 := Nat.ne_of_lt (Nat.lt_of_lt_of_le BL.lt' sz_r155)
    replace S_CS := Jvm.OwnK.Sta_keep S_CS K155
    replace S_FM := Jvm.OwnK.Sta_keep S_FM K155
    replace S_FI := Jvm.OwnK.Sta_keep S_FI K155
    replace S_O := Jvm.OwnK.Sta_keep S_O K155
    replace S_T := Jvm.OwnK.Sta_keep S_T K155
    replace O := O.keep K155 (all0)
    replace AO := AO.keep K155 nin0
    replace AT := AT.keep K155 nin0
    replace EJ := EJ.keep K155
    replace JT := JT.keep K155 nin0
    replace E := E.keep K155
    replace X_sa := X_sa.keep K155
    replace SA1 := SA1.keep K155 nin0 nin0
    replace BL := BL.keep K155 nin0 nin0
    replace YA := YA.keep K155
    have T155 : Str Z _ s155 r155 k155 10 (fun i => ([123, 34, 97, 34, 58, 102, 97, 108, 115, 101] : List Int32).getD i 0) := T155
    have X_s155 := T155.1
    show Go Γ n0 _ T (mkF Γ.m 158 #[.val (.long p0), .second, .val (.int p1), .val (.long p2), .second, .val (.ref b0), .val (.int (5 : Int32)), .val (.int (0 : Int32)), .unset, .unset, .unset] [(.ref s155)])
    refine k_astore G X at_158 (pc' := 160) rfl rfl (l' := #[.val (.long p0), .second, .val (.int p1), .val (.long p2), .second, .val (.ref b0), .val (.int (5 : Int32)), .val (.int (0 : Int32)), .val (.ref s155), .unset, .unset]) rfl ?_
    refine k_aload G X at_160 (pc' := 162) rfl rfl rfl ?_
    refine k_callV G X (argsL := []) (rest := []) rfl EJ (w38 hw) (w39 hw) (nf_sel (w41 hw)) (w41 hw) (w40 hw) (w2 hw) (w42 hw) (by decide) (boC hw b0 o u111 ku111 cu111 ([123, 34, 97, 34, 58, 102, 97, 108, 115, 101] : List Int32) cs fm 9 101 h155 n0 _ EJ JT ⟨ge_o, (List.mem_of_getElem? (i := 3) rfl)⟩ ⟨ge_u111, (List.mem_of_getElem? (i := 1) rfl)⟩ O BL S_CS hcs S_FM hfm rfl rfl (by decide) (by decide) (by decide) (by decide) (by decide)) at_162 pd31 rfl (pc' := 165) rfl rfl (wd := 0) rfl (by decide) (by decide) (by decide) (by decide) (fun T h162 v sf162 X q => ?_)
    obtain ⟨rfl, K162, u162, ku162, cu162, BLn, hu162, ge_u162, mu162⟩ := q
    replace X := W.only X mu162
    have ne_u162_o : u162 ≠ o := BLn.ne
    have ne_dO_u162 : dO ≠ u162 := ne_new hu162 ne_dO_u111 AO.lt
    have ne_dT_u162 : dT ≠ u162 := ne_new hu162 ne_dT_u111 AT.lt
    have ne_b0_u162 : b0 ≠ u162 := ne_new hu162 ne_b0_u111 EJ.lt
    have ne_sa_u162 : sa ≠ u162 := ne_new hu162 ne_sa_u111 X_sa.lt
    have ne_sad_u162 : sad ≠ u162 := ne_new hu162 ne_sad_u111 SA1.lt'
    have ne_s155_u162 : s155 ≠ u162 := ne_new hu162 (Ne.symm ne_u111_s155) T155.lt
    have ne_r155_u162 : r155 ≠ u162 := ne_new hu162 (Ne.symm ne_u111_r155) T155.lt'
    replace S_CS := Sta_keepL S_CS K162 (allS (Pln_exa E) (allS (Pln_exa YA) (all0)))
    replace S_FM := Sta_keepL S_FM K162 (allS (Pln_exa E) (allS (Pln_exa YA) (all0)))
    replace S_FI := Sta_keepL S_FI K162 (allS (Pln_exa E) (allS (Pln_exa YA) (all0)))
    replace S_O := Sta_keepL S_O K162 (allS (Pln_exa E) (allS (Pln_exa YA) (all0)))
    replace S_T := Sta_keepL S_T K162 (allS (Pln_exa E) (allS (Pln_exa YA) (all0)))
    replace O := O.keep K162 (allS ge_o (allS ge_u111 (all0)))
    replace AO := AO.keep K162 (nin2 ne_dO_o ne_dO_u111)
    replace AT := AT.keep K162 (nin2 ne_dT_o ne_dT_u111)
    replace EJ := EJ.keep K162
    replace JT := JT.keep K162 (nin2 ne_b0_o ne_b0_u111)
    replace E := E.keep K162
    replace X_sa := X_sa.keep K162
    replace SA1 := SA1.keep K162 (nin2 (Ne.symm ne_o_sa) ne_sa_u111) (nin2 (Ne.symm ne_o_sad) ne_sad_u111)
    replace YA := YA.keep K162
    replace T155 := T155.keep K162 (nin2 (Ne.symm ne_o_s155) (Ne.symm ne_u111_s155)) (nin2 (Ne.symm ne_o_r155) (Ne.symm ne_u111_r155))
    replace X_s155 := X_s155.keep K162
    have BL : Bld Z _ o u162 ku162 cu162 ([123, 34, 97, 34, 58, 102, 97, 108, 115, 101, 44, 123] : List Int32) := BLn
    have YA := BL.2.1
    show Go Γ n0 _ T (mkF Γ.m 165 #[.val (.long p0), .second, .val (.int p1), .val (.long p2), .second, .val (.ref b0), .val (.int (5 : Int32)), .val (.int (0 : Int32)), .val (.ref s155), .unset, .unset] [])
    refine k_aload G X at_165 (pc' := 167) rfl rfl rfl ?_
    refine k_callV G X (argsL := []) (rest := []) rfl EJ (w206 hw) (w207 hw) (nf_sel (w209 hw)) (w209 hw) (w208 hw) (w2 hw) (w210 hw) (by decide) (jtext hw b0 o u162 ku162 cu162 ([123, 34, 97, 34, 58, 102, 97, 108, 115, 101, 44, 123] : List Int32) cs h162 n0 _ EJ JT ⟨ge_o, (List.mem_of_getElem? (i := 4) rfl)⟩ ⟨ge_u162, (List.mem_of_getElem? (i := 0) rfl)⟩ O BL S_CS hcs (by decide)) at_167 pd36 rfl (pc' := 170) rfl rfl (wd := 0) rfl (by decide) (by decide) (by decide) (by decide) (fun T h167 v sf167 X q => ?_)
    obtain ⟨s167, r167, k167, rfl, sz_s167, sz_r167, K167, T167, ms167⟩ := q
    replace X := W.only X ms167
    have ne_dO_s167 : dO ≠ s167 := Nat.ne_of_lt (Nat.lt_of_lt_of_le AO.lt sz_s167)
    have ne_dT_s167 : dT ≠ s167 := Nat.ne_of_lt (Nat.lt_of_lt_of_le AT.lt sz_s167)
    have ne_b0_s167 : b0 ≠ s167 := Nat.ne_of_lt (Nat.lt_of_lt_of_le EJ.lt sz_s167)
    have ne_o_s167 : o ≠ s167 := Nat.ne_of_lt (Nat.lt_of_lt_of_le E.lt sz_s167)
    have ne_sa_s167 : sa ≠ s167 := Nat.ne_of_lt (Nat.lt_of_lt_of_le X_sa.lt sz_s167)
    have ne_sad_s167 : sad ≠ s167 := Nat.ne_of_lt (Nat.lt_of_lt_of_le SA1.lt' sz_s167)
    have ne_s155_s167 : s155 ≠ s167 := Nat.ne_of_lt (Nat.lt_of_lt_of_le T155.lt sz_s167)
    have ne_r155_s167 : r155 ≠ s167 := Nat.ne_of_lt (Nat.lt_of_lt_of_le T155.lt' sz_s167)
    have ne_u162_s167 : u162 ≠ s167 := Nat.ne_of_lt (Nat.lt_of_lt_of_le BL.lt' sz_s167)
    have ne_dO_r167 : dO ≠ r167 := Nat.ne_of_lt (Nat.lt_of_lt_of_le AO.lt sz_r167)
    have ne_dT_r167 : dT ≠ r167 := Nat.ne_of_lt (Nat.lt_of_lt_of_le AT.lt sz_r167)
    have ne_b0_r167 : b0 ≠ r167 := Nat.ne_of_lt (Nat.lt_of_lt_of_le EJ.lt sz_r167)
    have ne_o_r167 : o ≠ r167 := Nat.ne_of_lt (Nat.lt_of_lt_of_le E.lt sz_r167)
    have ne_sa_r167 : sa ≠ r167 := Nat.ne_of_lt (Nat.lt_of_lt_of_le X_sa.lt sz_r167)
    have ne_sad_r167 : sad ≠ r167 := Nat.ne_of_lt (Nat.lt_of_lt_of_le SA1.lt' sz_r167)
    have ne_s155_r167 : s155 ≠ r167 := Nat.ne_of_lt (Nat.lt_of_lt_of_le T155.lt sz_r167)
    have ne_r155_r167 : r155 ≠ r167 := Nat.ne_of_lt (Nat.lt_of_lt_of_le T155.lt' sz_r167)
    have ne_u162_r167 : u162 ≠ r167 := Nat.ne_of_lt (Nat.lt_of_lt_of_le BL.lt' sz_r167)
    replace S_CS := Jvm.OwnK.Sta_keep S_CS K167
    replace S_FM := Jvm.OwnK.Sta_keep S_FM K167
    replace S_FI := Jvm.OwnK.Sta_keep S_FI K167
    replace S_O := Jvm.OwnK.Sta_keep S_O K167
    replace S_T := Jvm.OwnK.Sta_keep S_T K167
    replace O := O.keep K167 (all0)
    replace AO := AO.keep K167 nin0
    replace AT := AT.keep K167 nin0
    replace EJ := EJ.keep K167
    replace JT := JT.keep K167 nin0
    replace E := E.keep K167
    replace X_sa := X_sa.keep K167
    replace SA1 := SA1.keep K167 nin0 nin0
    replace T155 := T155.keep K167 nin0 nin0
    replace X_s155 := X_s155.keep K167
    replace BL := BL.keep K167 nin0 nin0
    replace YA := YA.keep K167
    have T167 : Str Z _ s167 r167 k167 12 (fun i => ([123, 34, 97, 34, 58, 102, 97, 108, 115, 101, 44, 123] : List Int32).getD i 0) := T167
    have X_s167 := T167.1
    show Go Γ n0 _ T (mkF Γ.m 170 #[.val (.long p0), .second, .val (.int p1), .val (.long p2), .second, .val (.ref b0), .val (.int (5 : Int32)), .val (.int (0 : Int32)), .val (.ref s155), .unset, .unset] [(.ref s167)])
    refine k_astore G X at_170 (pc' := 172) rfl rfl (l' := #[.val (.long p0), .second, .val (.int p1), .val (.long p2), .second, .val (.ref b0), .val (.int (5 : Int32)), .val (.int (0 : Int32)), .val (.ref s155), .val (.ref s167), .unset]) rfl ?_
    refine k_iload G X at_172 (pc' := 174) rfl rfl ?_
    refine k_if_ne G X at_174 (pc' := 185) rfl (by decide) (pc'' := 177) rfl (fun c174 => ?_) (fun c174 => (absurd c174 (by decide)))
    refine k_iload G X at_185 (pc' := 187) rfl rfl ?_
    refine k_iconst G X at_187 (pc' := 188) rfl (z := (1 : Int32)) (by decide) ?_
    refine k_icmp_ne G X at_188 (pc' := 199) rfl (by decide) (pc'' := 191) rfl (fun c188 => ?_) (fun c188 => (absurd c188 (by decide)))
    refine k_iload G X at_199 (pc' := 201) rfl rfl ?_
    refine k_iconst G X at_201 (pc' := 202) rfl (z := (2 : Int32)) (by decide) ?_
    refine k_icmp_ne G X at_202 (pc' := 213) rfl (by decide) (pc'' := 205) rfl (fun c202 => ?_) (fun c202 => (absurd c202 (by decide)))
    refine k_iload G X at_213 (pc' := 215) rfl rfl ?_
    refine k_iconst G X at_215 (pc' := 216) rfl (z := (3 : Int32)) (by decide) ?_
    refine k_icmp_ne G X at_216 (pc' := 227) rfl (by decide) (pc'' := 219) rfl (fun c216 => ?_) (fun c216 => (absurd c216 (by decide)))
    refine k_iload G X at_227 (pc' := 229) rfl rfl ?_
    refine k_iconst G X at_229 (pc' := 230) rfl (z := (4 : Int32)) (by decide) ?_
    refine k_icmp_ne G X at_230 (pc' := 241) rfl (by decide) (pc'' := 233) rfl (fun c230 => ?_) (fun c230 => (absurd c230 (by decide)))
    refine k_iload G X at_241 (pc' := 243) rfl rfl ?_
    refine k_iconst G X at_243 (pc' := 244) rfl (z := (5 : Int32)) (by decide) ?_
    refine k_icmp_ne G X at_244 (pc' := 268) rfl (by decide) (pc'' := 247) rfl (fun c244 => (absurd c244 (by decide))) (fun c244 => ?_)
    refine k_iload G X at_247 (pc' := 249) rfl rfl ?_
    refine k_if_eq G X at_249 (pc' := 260) rfl (by decide) (pc'' := 252) rfl (fun c249 => ?_) (fun c249 => (absurd c249 (by decide)))
    refine k_aload G X at_260 (pc' := 262) rfl rfl rfl ?_
    refine k_ldcH G X (n := 48) (vs := ([123, 34, 97, 34, 58, 102, 97, 108, 115, 101, 44, 123] : List Int32)) (z := 12) (w353 hw) (strAtoms hw) (by decide) ⟨by decide, by decide⟩ (by decide) at_262 (pc' := 264) rfl (by decide) (by decide) (by decide) (by decide) (fun T h262 sk skd k262 E262 Xs Fc Fv Fa hne262 X => ?_)
    replace O := O.ext E262
    replace S_CS := S_CS.ext E262
    replace S_FM := S_FM.ext E262
    replace S_FI := S_FI.ext E262
    replace AO := AO.ext E262
    replace AT := AT.ext E262
    replace S_O := S_O.ext E262
    replace S_T := S_T.ext E262
    replace EJ := EJ.ext E262
    replace JT := JT.ext E262
    replace E := E.ext E262
    replace X_sa := X_sa.ext E262
    replace SA1 := SA1.ext E262
    replace T155 := T155.ext E262
    replace X_s155 := X_s155.ext E262
    replace BL := BL.ext E262
    replace YA := YA.ext E262
    replace T167 := T167.ext E262
    replace X_s167 := X_s167.ext E262
    have SK : Str Z h262 sk skd k262 12 (fun i => ([123, 34, 97, 34, 58, 102, 97, 108, 115, 101, 44, 123] : List Int32).getD i 0) := ⟨Xs, Fc, Fv, Fa⟩
    have X_sk := Xs
    have ne_s167_sk := (hne262 s167 (List.mem_of_getElem? (i := 0) rfl)).1
    have ne_s167_skd := (hne262 s167 (List.mem_of_getElem? (i := 0) rfl)).2
    have ne_u162_sk := (hne262 u162 (List.mem_of_getElem? (i := 1) rfl)).1
    have ne_u162_skd := (hne262 u162 (List.mem_of_getElem? (i := 1) rfl)).2
    have ne_s155_sk := (hne262 s155 (List.mem_of_getElem? (i := 2) rfl)).1
    have ne_s155_skd := (hne262 s155 (List.mem_of_getElem? (i := 2) rfl)).2
    have ne_u111_sk := (hne262 u111 (List.mem_of_getElem? (i := 3) rfl)).1
    have ne_u111_skd := (hne262 u111 (List.mem_of_getElem? (i := 3) rfl)).2
    have ne_u45_sk := (hne262 u45 (List.mem_of_getElem? (i := 4) rfl)).1
    have ne_u45_skd := (hne262 u45 (List.mem_of_getElem? (i := 4) rfl)).2
    have ne_o_sk := (hne262 o (List.mem_of_getElem? (i := 5) rfl)).1
    have ne_o_skd := (hne262 o (List.mem_of_getElem? (i := 5) rfl)).2
    have ne_b_sk := (hne262 b (List.mem_of_getElem? (i := 6) rfl)).1
    have ne_b_skd := (hne262 b (List.mem_of_getElem? (i := 6) rfl)).2
    have ne_b0_sk := (hne262 b0 (List.mem_of_getElem? (i := 7) rfl)).1
    have ne_b0_skd := (hne262 b0 (List.mem_of_getElem? (i := 7) rfl)).2
    refine k_callV G X (argsL := [(.ref sk)]) (rest := []) rfl X_s167 (w242 hw) (w243 hw) (nf_sel (w245 hw)) (w245 hw) (w244 hw) (w29 hw) (w246 hw) (by decide) (str_eq hw s167 sk r167 skd k167 k262 12 12 cs _ _ h262 n0 _ T167 SK ne_s167_sk S_CS hcs) at_264 pd39 rfl (pc' := 267) rfl rfl (wd := 0) rfl (by decide) (by decide) (by decide) (by decide) (fun T h264 v sf264 X q => ?_)
    replace X := W.drop X
    obtain ⟨r, rfl, hr, hi, e264⟩ := q
    replace X := X.eq e264
    obtain rfl : (1 : Int32) = r := (hi.mpr ⟨rfl, fun i _ => rfl⟩).symm
    show Go Γ n0 _ T (mkF Γ.m 267 #[.val (.long p0), .second, .val (.int p1), .val (.long p2), .second, .val (.ref b0), .val (.int (5 : Int32)), .val (.int (0 : Int32)), .val (.ref s155), .val (.ref s167), .unset] [(.int (1 : Int32))])
    refine k_retb G X at_267 (t := .boolean) rfl (by simp) rfl ?_ (by decide) (by decide)
    rfl
  · refine k_aload G X at_105 (pc' := 107) rfl rfl rfl ?_
    refine k_ldcH G X (n := 4) (vs := ([97] : List Int32)) (z := 1) (w82 hw) (strAtoms hw) (by decide) ⟨by decide, by decide⟩ (by decide) at_107 (pc' := 109) rfl (by decide) (by decide) (by decide) (by decide) (fun T h107 sa sad k107 E107 Xs Fc Fv Fa hne107 X => ?_)
    replace O := O.ext E107
    replace S_CS := S_CS.ext E107
    replace S_FM := S_FM.ext E107
    replace S_FI := S_FI.ext E107
    replace AO := AO.ext E107
    replace AT := AT.ext E107
    replace S_O := S_O.ext E107
    replace S_T := S_T.ext E107
    replace EJ := EJ.ext E107
    replace JT := JT.ext E107
    replace E := E.ext E107
    replace BL := BL.ext E107
    replace YA := YA.ext E107
    have SA1 : Str Z h107 sa sad k107 1 (fun i => ([97] : List Int32).getD i 0) := ⟨Xs, Fc, Fv, Fa⟩
    have X_sa := Xs
    have ne_u45_sa := (hne107 u45 (List.mem_of_getElem? (i := 0) rfl)).1
    have ne_u45_sad := (hne107 u45 (List.mem_of_getElem? (i := 0) rfl)).2
    have ne_o_sa := (hne107 o (List.mem_of_getElem? (i := 1) rfl)).1
    have ne_o_sad := (hne107 o (List.mem_of_getElem? (i := 1) rfl)).2
    have ne_b_sa := (hne107 b (List.mem_of_getElem? (i := 2) rfl)).1
    have ne_b_sad := (hne107 b (List.mem_of_getElem? (i := 2) rfl)).2
    have ne_b0_sa := (hne107 b0 (List.mem_of_getElem? (i := 3) rfl)).1
    have ne_b0_sad := (hne107 b0 (List.mem_of_getElem? (i := 3) rfl)).2
    refine k_iload G X at_109 (pc' := 111) rfl rfl ?_
    refine k_callV G X (argsL := [(.ref sa), (.int (1 : Int32))]) (rest := []) rfl EJ (w293 hw) (w294 hw) (nf_sel (w296 hw)) (w296 hw) (w295 hw) (w2 hw) (w297 hw) (by decide) (mz1 hw b0 o u45 ku45 cu45 ([123] : List Int32) cs fm 0 123 sa sad k107 (fun i => ([97] : List Int32).getD i 0) fi h107 n0 _ EJ JT ⟨ge_o, (List.mem_of_getElem? (i := 1) rfl)⟩ ⟨ge_u45, (List.mem_of_getElem? (i := 0) rfl)⟩ O BL S_CS hcs S_FM hfm rfl rfl (by decide) (by decide) (by decide) SA1 rfl (Ne.symm ne_o_sa) (Ne.symm ne_o_sad) (Ne.symm ne_u45_sa) (Ne.symm ne_u45_sad) S_FI hfi (by decide)) at_111 pd40 rfl (pc' := 114) rfl rfl (wd := 0) rfl (by decide) (by decide) (by decide) (by decide) (fun T h111 v sf111 X q => ?_)
    obtain ⟨rfl, K111, u111, ku111, cu111, BLn, hu111, ge_u111, mu111⟩ := q
    replace X := W.only X mu111
    have ne_u111_o : u111 ≠ o := BLn.ne
    have ne_dO_u111 : dO ≠ u111 := ne_new hu111 ne_dO_u45 AO.lt
    have ne_dT_u111 : dT ≠ u111 := ne_new hu111 ne_dT_u45 AT.lt
    have ne_b0_u111 : b0 ≠ u111 := ne_new hu111 ne_b0_u45 EJ.lt
    have ne_sa_u111 : sa ≠ u111 := ne_new hu111 (Ne.symm ne_u45_sa) X_sa.lt
    have ne_sad_u111 : sad ≠ u111 := ne_new hu111 (Ne.symm ne_u45_sad) SA1.lt'
    replace S_CS := Sta_keepL S_CS K111 (allS (Pln_exa E) (allS (Pln_exa YA) (all0)))
    replace S_FM := Sta_keepL S_FM K111 (allS (Pln_exa E) (allS (Pln_exa YA) (all0)))
    replace S_FI := Sta_keepL S_FI K111 (allS (Pln_exa E) (allS (Pln_exa YA) (all0)))
    replace S_O := Sta_keepL S_O K111 (allS (Pln_exa E) (allS (Pln_exa YA) (all0)))
    replace S_T := Sta_keepL S_T K111 (allS (Pln_exa E) (allS (Pln_exa YA) (all0)))
    replace O := O.keep K111 (allS ge_o (allS ge_u45 (all0)))
    replace AO := AO.keep K111 (nin2 ne_dO_o ne_dO_u45)
    replace AT := AT.keep K111 (nin2 ne_dT_o ne_dT_u45)
    replace EJ := EJ.keep K111
    replace JT := JT.keep K111 (nin2 ne_b0_o ne_b0_u45)
    replace E := E.keep K111
    replace YA := YA.keep K111
    replace X_sa := X_sa.keep K111
    replace SA1 := SA1.keep K111 (nin2 (Ne.symm ne_o_sa) (Ne.symm ne_u45_sa)) (nin2 (Ne.symm ne_o_sad) (Ne.symm ne_u45_sad))
    have BL : Bld Z _ o u111 ku111 cu111 ([123, 34, 97, 34, 58, 116, 114, 117, 101] : List Int32) := BLn
    have YA := BL.2.1
    show Go Γ n0 _ T (mkF Γ.m 114 #[.val (.long p0), .second, .val (.int p1), .val (.long p2), .second, .val (.ref b0), .val (.int (5 : Int32)), .val (.int (1 : Int32)), .unset, .unset, .unset] [])
    refine k_goto G X at_114 (by decide) (pc' := 153) rfl ?_
    refine k_aload G X at_153 (pc' := 155) rfl rfl rfl ?_
    refine k_callV G X (argsL := []) (rest := []) rfl EJ (w206 hw) (w207 hw) (nf_sel (w209 hw)) (w209 hw) (w208 hw) (w2 hw) (w210 hw) (by decide) (jtext hw b0 o u111 ku111 cu111 ([123, 34, 97, 34, 58, 116, 114, 117, 101] : List Int32) cs h111 n0 _ EJ JT ⟨ge_o, (List.mem_of_getElem? (i := 2) rfl)⟩ ⟨ge_u111, (List.mem_of_getElem? (i := 0) rfl)⟩ O BL S_CS hcs (by decide)) at_155 pd36 rfl (pc' := 158) rfl rfl (wd := 0) rfl (by decide) (by decide) (by decide) (by decide) (fun T h155 v sf155 X q => ?_)
    obtain ⟨s155, r155, k155, rfl, sz_s155, sz_r155, K155, T155, ms155⟩ := q
    replace X := W.only X ms155
    have ne_dO_s155 : dO ≠ s155 := Nat.ne_of_lt (Nat.lt_of_lt_of_le AO.lt sz_s155)
    have ne_dT_s155 : dT ≠ s155 := Nat.ne_of_lt (Nat.lt_of_lt_of_le AT.lt sz_s155)
    have ne_b0_s155 : b0 ≠ s155 := Nat.ne_of_lt (Nat.lt_of_lt_of_le EJ.lt sz_s155)
    have ne_o_s155 : o ≠ s155 := Nat.ne_of_lt (Nat.lt_of_lt_of_le E.lt sz_s155)
    have ne_sa_s155 : sa ≠ s155 := Nat.ne_of_lt (Nat.lt_of_lt_of_le X_sa.lt sz_s155)
    have ne_sad_s155 : sad ≠ s155 := Nat.ne_of_lt (Nat.lt_of_lt_of_le SA1.lt' sz_s155)
    have ne_u111_s155 : u111 ≠ s155 := Nat.ne_of_lt (Nat.lt_of_lt_of_le BL.lt' sz_s155)
    have ne_dO_r155 : dO ≠ r155 := Nat.ne_of_lt (Nat.lt_of_lt_of_le AO.lt sz_r155)
    have ne_dT_r155 : dT ≠ r155 := Nat.ne_of_lt (Nat.lt_of_lt_of_le AT.lt sz_r155)
    have ne_b0_r155 : b0 ≠ r155 := Nat.ne_of_lt (Nat.lt_of_lt_of_le EJ.lt sz_r155)
    have ne_o_r155 : o ≠ r155 := Nat.ne_of_lt (Nat.lt_of_lt_of_le E.lt sz_r155)
    have ne_sa_r155 : sa ≠ r155 := Nat.ne_of_lt (Nat.lt_of_lt_of_le X_sa.lt sz_r155)
    have ne_sad_r155 : sad ≠ r155 := Nat.ne_of_lt (Nat.lt_of_lt_of_le SA1.lt' sz_r155)
    have ne_u111_r155 : u111 ≠ r155 := Nat.ne_of_lt (Nat.lt_of_lt_of_le BL.lt' sz_r155)
    replace S_CS := Jvm.OwnK.Sta_keep S_CS K155
    replace S_FM := Jvm.OwnK.Sta_keep S_FM K155
    replace S_FI := Jvm.OwnK.Sta_keep S_FI K155
    replace S_O := Jvm.OwnK.Sta_keep S_O K155
    replace S_T := Jvm.OwnK.Sta_keep S_T K155
    replace O := O.keep K155 (all0)
    replace AO := AO.keep K155 nin0
    replace AT := AT.keep K155 nin0
    replace EJ := EJ.keep K155
    replace JT := JT.keep K155 nin0
    replace E := E.keep K155
    replace X_sa := X_sa.keep K155
    replace SA1 := SA1.keep K155 nin0 nin0
    replace BL := BL.keep K155 nin0 nin0
    replace YA := YA.keep K155
    have T155 : Str Z _ s155 r155 k155 9 (fun i => ([123, 34, 97, 34, 58, 116, 114, 117, 101] : List Int32).getD i 0) := T155
    have X_s155 := T155.1
    show Go Γ n0 _ T (mkF Γ.m 158 #[.val (.long p0), .second, .val (.int p1), .val (.long p2), .second, .val (.ref b0), .val (.int (5 : Int32)), .val (.int (1 : Int32)), .unset, .unset, .unset] [(.ref s155)])
    refine k_astore G X at_158 (pc' := 160) rfl rfl (l' := #[.val (.long p0), .second, .val (.int p1), .val (.long p2), .second, .val (.ref b0), .val (.int (5 : Int32)), .val (.int (1 : Int32)), .val (.ref s155), .unset, .unset]) rfl ?_
    refine k_aload G X at_160 (pc' := 162) rfl rfl rfl ?_
    refine k_callV G X (argsL := []) (rest := []) rfl EJ (w38 hw) (w39 hw) (nf_sel (w41 hw)) (w41 hw) (w40 hw) (w2 hw) (w42 hw) (by decide) (boC hw b0 o u111 ku111 cu111 ([123, 34, 97, 34, 58, 116, 114, 117, 101] : List Int32) cs fm 8 101 h155 n0 _ EJ JT ⟨ge_o, (List.mem_of_getElem? (i := 3) rfl)⟩ ⟨ge_u111, (List.mem_of_getElem? (i := 1) rfl)⟩ O BL S_CS hcs S_FM hfm rfl rfl (by decide) (by decide) (by decide) (by decide) (by decide)) at_162 pd31 rfl (pc' := 165) rfl rfl (wd := 0) rfl (by decide) (by decide) (by decide) (by decide) (fun T h162 v sf162 X q => ?_)
    obtain ⟨rfl, K162, u162, ku162, cu162, BLn, hu162, ge_u162, mu162⟩ := q
    replace X := W.only X mu162
    have ne_u162_o : u162 ≠ o := BLn.ne
    have ne_dO_u162 : dO ≠ u162 := ne_new hu162 ne_dO_u111 AO.lt
    have ne_dT_u162 : dT ≠ u162 := ne_new hu162 ne_dT_u111 AT.lt
    have ne_b0_u162 : b0 ≠ u162 := ne_new hu162 ne_b0_u111 EJ.lt
    have ne_sa_u162 : sa ≠ u162 := ne_new hu162 ne_sa_u111 X_sa.lt
    have ne_sad_u162 : sad ≠ u162 := ne_new hu162 ne_sad_u111 SA1.lt'
    have ne_s155_u162 : s155 ≠ u162 := ne_new hu162 (Ne.symm ne_u111_s155) T155.lt
    have ne_r155_u162 : r155 ≠ u162 := ne_new hu162 (Ne.symm ne_u111_r155) T155.lt'
    replace S_CS := Sta_keepL S_CS K162 (allS (Pln_exa E) (allS (Pln_exa YA) (all0)))
    replace S_FM := Sta_keepL S_FM K162 (allS (Pln_exa E) (allS (Pln_exa YA) (all0)))
    replace S_FI := Sta_keepL S_FI K162 (allS (Pln_exa E) (allS (Pln_exa YA) (all0)))
    replace S_O := Sta_keepL S_O K162 (allS (Pln_exa E) (allS (Pln_exa YA) (all0)))
    replace S_T := Sta_keepL S_T K162 (allS (Pln_exa E) (allS (Pln_exa YA) (all0)))
    replace O := O.keep K162 (allS ge_o (allS ge_u111 (all0)))
    replace AO := AO.keep K162 (nin2 ne_dO_o ne_dO_u111)
    replace AT := AT.keep K162 (nin2 ne_dT_o ne_dT_u111)
    replace EJ := EJ.keep K162
    replace JT := JT.keep K162 (nin2 ne_b0_o ne_b0_u111)
    replace E := E.keep K162
    replace X_sa := X_sa.keep K162
    replace SA1 := SA1.keep K162 (nin2 (Ne.symm ne_o_sa) ne_sa_u111) (nin2 (Ne.symm ne_o_sad) ne_sad_u111)
    replace YA := YA.keep K162
    replace T155 := T155.keep K162 (nin2 (Ne.symm ne_o_s155) (Ne.symm ne_u111_s155)) (nin2 (Ne.symm ne_o_r155) (Ne.symm ne_u111_r155))
    replace X_s155 := X_s155.keep K162
    have BL : Bld Z _ o u162 ku162 cu162 ([123, 34, 97, 34, 58, 116, 114, 117, 101, 44, 123] : List Int32) := BLn
    have YA := BL.2.1
    show Go Γ n0 _ T (mkF Γ.m 165 #[.val (.long p0), .second, .val (.int p1), .val (.long p2), .second, .val (.ref b0), .val (.int (5 : Int32)), .val (.int (1 : Int32)), .val (.ref s155), .unset, .unset] [])
    refine k_aload G X at_165 (pc' := 167) rfl rfl rfl ?_
    refine k_callV G X (argsL := []) (rest := []) rfl EJ (w206 hw) (w207 hw) (nf_sel (w209 hw)) (w209 hw) (w208 hw) (w2 hw) (w210 hw) (by decide) (jtext hw b0 o u162 ku162 cu162 ([123, 34, 97, 34, 58, 116, 114, 117, 101, 44, 123] : List Int32) cs h162 n0 _ EJ JT ⟨ge_o, (List.mem_of_getElem? (i := 4) rfl)⟩ ⟨ge_u162, (List.mem_of_getElem? (i := 0) rfl)⟩ O BL S_CS hcs (by decide)) at_167 pd36 rfl (pc' := 170) rfl rfl (wd := 0) rfl (by decide) (by decide) (by decide) (by decide) (fun T h167 v sf167 X q => ?_)
    obtain ⟨s167, r167, k167, rfl, sz_s167, sz_r167, K167, T167, ms167⟩ := q
    replace X := W.only X ms167
    have ne_dO_s167 : dO ≠ s167 := Nat.ne_of_lt (Nat.lt_of_lt_of_le AO.lt sz_s167)
    have ne_dT_s167 : dT ≠ s167 := Nat.ne_of_lt (Nat.lt_of_lt_of_le AT.lt sz_s167)
    have ne_b0_s167 : b0 ≠ s167 := Nat.ne_of_lt (Nat.lt_of_lt_of_le EJ.lt sz_s167)
    have ne_o_s167 : o ≠ s167 := Nat.ne_of_lt (Nat.lt_of_lt_of_le E.lt sz_s167)
    have ne_sa_s167 : sa ≠ s167 := Nat.ne_of_lt (Nat.lt_of_lt_of_le X_sa.lt sz_s167)
    have ne_sad_s167 : sad ≠ s167 := Nat.ne_of_lt (Nat.lt_of_lt_of_le SA1.lt' sz_s167)
    have ne_s155_s167 : s155 ≠ s167 := Nat.ne_of_lt (Nat.lt_of_lt_of_le T155.lt sz_s167)
    have ne_r155_s167 : r155 ≠ s167 := Nat.ne_of_lt (Nat.lt_of_lt_of_le T155.lt' sz_s167)
    have ne_u162_s167 : u162 ≠ s167 := Nat.ne_of_lt (Nat.lt_of_lt_of_le BL.lt' sz_s167)
    have ne_dO_r167 : dO ≠ r167 := Nat.ne_of_lt (Nat.lt_of_lt_of_le AO.lt sz_r167)
    have ne_dT_r167 : dT ≠ r167 := Nat.ne_of_lt (Nat.lt_of_lt_of_le AT.lt sz_r167)
    have ne_b0_r167 : b0 ≠ r167 := Nat.ne_of_lt (Nat.lt_of_lt_of_le EJ.lt sz_r167)
    have ne_o_r167 : o ≠ r167 := Nat.ne_of_lt (Nat.lt_of_lt_of_le E.lt sz_r167)
    have ne_sa_r167 : sa ≠ r167 := Nat.ne_of_lt (Nat.lt_of_lt_of_le X_sa.lt sz_r167)
    have ne_sad_r167 : sad ≠ r167 := Nat.ne_of_lt (Nat.lt_of_lt_of_le SA1.lt' sz_r167)
    have ne_s155_r167 : s155 ≠ r167 := Nat.ne_of_lt (Nat.lt_of_lt_of_le T155.lt sz_r167)
    have ne_r155_r167 : r155 ≠ r167 := Nat.ne_of_lt (Nat.lt_of_lt_of_le T155.lt' sz_r167)
    have ne_u162_r167 : u162 ≠ r167 := Nat.ne_of_lt (Nat.lt_of_lt_of_le BL.lt' sz_r167)
    replace S_CS := Jvm.OwnK.Sta_keep S_CS K167
    replace S_FM := Jvm.OwnK.Sta_keep S_FM K167
    replace S_FI := Jvm.OwnK.Sta_keep S_FI K167
    replace S_O := Jvm.OwnK.Sta_keep S_O K167
    replace S_T := Jvm.OwnK.Sta_keep S_T K167
    replace O := O.keep K167 (all0)
    replace AO := AO.keep K167 nin0
    replace AT := AT.keep K167 nin0
    replace EJ := EJ.keep K167
    replace JT := JT.keep K167 nin0
    replace E := E.keep K167
    replace X_sa := X_sa.keep K167
    replace SA1 := SA1.keep K167 nin0 nin0
    replace T155 := T155.keep K167 nin0 nin0
    replace X_s155 := X_s155.keep K167
    replace BL := BL.keep K167 nin0 nin0
    replace YA := YA.keep K167
    have T167 : Str Z _ s167 r167 k167 11 (fun i => ([123, 34, 97, 34, 58, 116, 114, 117, 101, 44, 123] : List Int32).getD i 0) := T167
    have X_s167 := T167.1
    show Go Γ n0 _ T (mkF Γ.m 170 #[.val (.long p0), .second, .val (.int p1), .val (.long p2), .second, .val (.ref b0), .val (.int (5 : Int32)), .val (.int (1 : Int32)), .val (.ref s155), .unset, .unset] [(.ref s167)])
    refine k_astore G X at_170 (pc' := 172) rfl rfl (l' := #[.val (.long p0), .second, .val (.int p1), .val (.long p2), .second, .val (.ref b0), .val (.int (5 : Int32)), .val (.int (1 : Int32)), .val (.ref s155), .val (.ref s167), .unset]) rfl ?_
    refine k_iload G X at_172 (pc' := 174) rfl rfl ?_
    refine k_if_ne G X at_174 (pc' := 185) rfl (by decide) (pc'' := 177) rfl (fun c174 => ?_) (fun c174 => (absurd c174 (by decide)))
    refine k_iload G X at_185 (pc' := 187) rfl rfl ?_
    refine k_iconst G X at_187 (pc' := 188) rfl (z := (1 : Int32)) (by decide) ?_
    refine k_icmp_ne G X at_188 (pc' := 199) rfl (by decide) (pc'' := 191) rfl (fun c188 => ?_) (fun c188 => (absurd c188 (by decide)))
    refine k_iload G X at_199 (pc' := 201) rfl rfl ?_
    refine k_iconst G X at_201 (pc' := 202) rfl (z := (2 : Int32)) (by decide) ?_
    refine k_icmp_ne G X at_202 (pc' := 213) rfl (by decide) (pc'' := 205) rfl (fun c202 => ?_) (fun c202 => (absurd c202 (by decide)))
    refine k_iload G X at_213 (pc' := 215) rfl rfl ?_
    refine k_iconst G X at_215 (pc' := 216) rfl (z := (3 : Int32)) (by decide) ?_
    refine k_icmp_ne G X at_216 (pc' := 227) rfl (by decide) (pc'' := 219) rfl (fun c216 => ?_) (fun c216 => (absurd c216 (by decide)))
    refine k_iload G X at_227 (pc' := 229) rfl rfl ?_
    refine k_iconst G X at_229 (pc' := 230) rfl (z := (4 : Int32)) (by decide) ?_
    refine k_icmp_ne G X at_230 (pc' := 241) rfl (by decide) (pc'' := 233) rfl (fun c230 => ?_) (fun c230 => (absurd c230 (by decide)))
    refine k_iload G X at_241 (pc' := 243) rfl rfl ?_
    refine k_iconst G X at_243 (pc' := 244) rfl (z := (5 : Int32)) (by decide) ?_
    refine k_icmp_ne G X at_244 (pc' := 268) rfl (by decide) (pc'' := 247) rfl (fun c244 => (absurd c244 (by decide))) (fun c244 => ?_)
    refine k_iload G X at_247 (pc' := 249) rfl rfl ?_
    refine k_if_eq G X at_249 (pc' := 260) rfl (by decide) (pc'' := 252) rfl (fun c249 => (absurd c249 (by decide))) (fun c249 => ?_)
    refine k_aload G X at_252 (pc' := 254) rfl rfl rfl ?_
    refine k_ldcH G X (n := 44) (vs := ([123, 34, 97, 34, 58, 116, 114, 117, 101, 44, 123] : List Int32)) (z := 11) (w307 hw) (strAtoms hw) (by decide) ⟨by decide, by decide⟩ (by decide) at_254 (pc' := 256) rfl (by decide) (by decide) (by decide) (by decide) (fun T h254 sk skd k254 E254 Xs Fc Fv Fa hne254 X => ?_)
    replace O := O.ext E254
    replace S_CS := S_CS.ext E254
    replace S_FM := S_FM.ext E254
    replace S_FI := S_FI.ext E254
    replace AO := AO.ext E254
    replace AT := AT.ext E254
    replace S_O := S_O.ext E254
    replace S_T := S_T.ext E254
    replace EJ := EJ.ext E254
    replace JT := JT.ext E254
    replace E := E.ext E254
    replace X_sa := X_sa.ext E254
    replace SA1 := SA1.ext E254
    replace T155 := T155.ext E254
    replace X_s155 := X_s155.ext E254
    replace BL := BL.ext E254
    replace YA := YA.ext E254
    replace T167 := T167.ext E254
    replace X_s167 := X_s167.ext E254
    have SK : Str Z h254 sk skd k254 11 (fun i => ([123, 34, 97, 34, 58, 116, 114, 117, 101, 44, 123] : List Int32).getD i 0) := ⟨Xs, Fc, Fv, Fa⟩
    have X_sk := Xs
    have ne_s167_sk := (hne254 s167 (List.mem_of_getElem? (i := 0) rfl)).1
    have ne_s167_skd := (hne254 s167 (List.mem_of_getElem? (i := 0) rfl)).2
    have ne_u162_sk := (hne254 u162 (List.mem_of_getElem? (i := 1) rfl)).1
    have ne_u162_skd := (hne254 u162 (List.mem_of_getElem? (i := 1) rfl)).2
    have ne_s155_sk := (hne254 s155 (List.mem_of_getElem? (i := 2) rfl)).1
    have ne_s155_skd := (hne254 s155 (List.mem_of_getElem? (i := 2) rfl)).2
    have ne_u111_sk := (hne254 u111 (List.mem_of_getElem? (i := 3) rfl)).1
    have ne_u111_skd := (hne254 u111 (List.mem_of_getElem? (i := 3) rfl)).2
    have ne_u45_sk := (hne254 u45 (List.mem_of_getElem? (i := 4) rfl)).1
    have ne_u45_skd := (hne254 u45 (List.mem_of_getElem? (i := 4) rfl)).2
    have ne_o_sk := (hne254 o (List.mem_of_getElem? (i := 5) rfl)).1
    have ne_o_skd := (hne254 o (List.mem_of_getElem? (i := 5) rfl)).2
    have ne_b_sk := (hne254 b (List.mem_of_getElem? (i := 6) rfl)).1
    have ne_b_skd := (hne254 b (List.mem_of_getElem? (i := 6) rfl)).2
    have ne_b0_sk := (hne254 b0 (List.mem_of_getElem? (i := 7) rfl)).1
    have ne_b0_skd := (hne254 b0 (List.mem_of_getElem? (i := 7) rfl)).2
    refine k_callV G X (argsL := [(.ref sk)]) (rest := []) rfl X_s167 (w242 hw) (w243 hw) (nf_sel (w245 hw)) (w245 hw) (w244 hw) (w29 hw) (w246 hw) (by decide) (str_eq hw s167 sk r167 skd k167 k254 11 11 cs _ _ h254 n0 _ T167 SK ne_s167_sk S_CS hcs) at_256 pd39 rfl (pc' := 259) rfl rfl (wd := 0) rfl (by decide) (by decide) (by decide) (by decide) (fun T h256 v sf256 X q => ?_)
    replace X := W.drop X
    obtain ⟨r, rfl, hr, hi, e256⟩ := q
    replace X := X.eq e256
    obtain rfl : (1 : Int32) = r := (hi.mpr ⟨rfl, fun i _ => rfl⟩).symm
    show Go Γ n0 _ T (mkF Γ.m 259 #[.val (.long p0), .second, .val (.int p1), .val (.long p2), .second, .val (.ref b0), .val (.int (5 : Int32)), .val (.int (1 : Int32)), .val (.ref s155), .val (.ref s167), .unset] [(.int (1 : Int32))])
    refine k_retb G X at_259 (t := .boolean) rfl (by simp) rfl ?_ (by decide) (by decide)
    rfl
set_option maxRecDepth 65536 in
set_option maxHeartbeats 40000000 in
theorem md6 {Z : State} {a0 : Array Value} (hw : HW a0 Z) (p0 : Int64) (p1 cs : Int32) (p2 : Int64) (fm fi : Value) (dO dT : Addr) (kO kT : ClassId) (gO gT : Nat → Int32) (b0 o b : Addr) (k : ClassId) (nn : Nat) (fl : Int32) (h0 h9 : Heap) (n0 : Nat) (O : Old Z n0 h9) (S_CS : Sta Z h9 "java/lang/String" "COMPACT_STRINGS" "Z" (.int cs)) (hcs : cs ≠ 0) (S_FM : Sta Z h9 "jdk/internal/util/Preconditions" "SIOOBE_FORMATTER" "Ljava/util/function/BiFunction;" fm) (hfm : fm.isRef = true) (S_FI : Sta Z h9 "jdk/internal/util/Preconditions" "IOOBE_FORMATTER" "Ljava/util/function/BiFunction;" fi) (hfi : fi.isRef = true) (AO : Arf Z h9 dO kO .byte 100 (fun i => .int (gO i))) (AT : Arf Z h9 dT kT .byte 100 (fun i => .int (gT i))) (S_O : Sta Z h9 "java/lang/Integer" "DigitOnes" "[B" (.ref dO)) (S_T : Sta Z h9 "java/lang/Integer" "DigitTens" "[B" (.ref dT)) (hO : ∀ i, i < 100 → dig (gO i)) (hT : ∀ i, i < 100 → dig (gT i)) (EJ : Exa Z h9 b0 "com/example/half_message_commit/halfmessagecommit/protocol/JsonWriter") (JT : Fld Z h9 b0 "com/example/half_message_commit/halfmessagecommit/protocol/JsonWriter" "text" "Ljava/lang/StringBuilder;" (.ref o)) (BL : Bld Z h9 o b k nn []) (ge_b0 : n0 ≤ b0) (ge_o : n0 ≤ o) (ge_b : n0 ≤ b) (ne_b_o : b ≠ o) (ne_b0_b : b0 ≠ b) (ne_b0_o : b0 ≠ o) (ne_dO_b : dO ≠ b) (ne_dO_b0 : dO ≠ b0) (ne_dO_o : dO ≠ o) (ne_dT_b : dT ≠ b) (ne_dT_b0 : dT ≠ b0) (ne_dT_o : dT ≠ o) (hfl : fl = 0 ∨ fl = 1) (Γ : Cx) (T : State) (G : Ctx Γ Z consts_1 x.cls code maxLocals ret x.name room_1 h0) (X : W Γ n0 T h9 3 65540 (b :: b0 :: [])) : Go Γ n0 (fun v h sf => v = some (.int 1)) T (mkF Γ.m 38 #[.val (.long p0), .second, .val (.int p1), .val (.long p2), .second, .val (.ref b0), .val (.int (6 : Int32)), .val (.int fl), .unset, .unset, .unset] []) := by
  have E := BL.1
  have YA := BL.2.1
  refine k_iload G X at_38 (pc' := 40) rfl rfl ?_
  refine k_if_eq G X at_40 (pc' := 48) rfl (by decide) (pc'' := 43) rfl (fun c40 => (absurd c40 (by decide))) (fun c40 => ?_)
  refine k_aload G X at_43 (pc' := 45) rfl rfl rfl ?_
  replace X := W.addE G X E (by decide) (by decide)
  refine k_callV G X (argsL := []) (rest := []) rfl EJ (w38 hw) (w39 hw) (nf_sel (w41 hw)) (w41 hw) (w40 hw) (w2 hw) (w42 hw) (by decide) (boE hw b0 o b k nn ([] : List Int32) cs  h9 n0 _ EJ JT ⟨ge_o, (List.mem_of_getElem? (i := 0) rfl)⟩ ⟨ge_b, (List.mem_of_getElem? (i := 1) rfl)⟩ O BL S_CS hcs rfl) at_45 pd31 rfl (pc' := 48) rfl rfl (wd := 0) rfl (by decide) (by decide) (by decide) (by decide) (fun T h45 v sf45 X q => ?_)
  obtain ⟨rfl, K45, u45, ku45, cu45, BLn, hu45, ge_u45, mu45⟩ := q
  replace X := W.only X mu45
  have ne_u45_o : u45 ≠ o := BLn.ne
  have ne_dO_u45 : dO ≠ u45 := ne_new hu45 ne_dO_b AO.lt
  have ne_dT_u45 : dT ≠ u45 := ne_new hu45 ne_dT_b AT.lt
  have ne_b0_u45 : b0 ≠ u45 := ne_new hu45 ne_b0_b EJ.lt
  replace S_CS := Sta_keepL S_CS K45 (allS (Pln_exa E) (allS (Pln_exa YA) (all0)))
  replace S_FM := Sta_keepL S_FM K45 (allS (Pln_exa E) (allS (Pln_exa YA) (all0)))
  replace S_FI := Sta_keepL S_FI K45 (allS (Pln_exa E) (allS (Pln_exa YA) (all0)))
  replace S_O := Sta_keepL S_O K45 (allS (Pln_exa E) (allS (Pln_exa YA) (all0)))
  replace S_T := Sta_keepL S_T K45 (allS (Pln_exa E) (allS (Pln_exa YA) (all0)))
  replace O := O.keep K45 (allS ge_o (allS ge_b (all0)))
  replace AO := AO.keep K45 (nin2 ne_dO_o ne_dO_b)
  replace AT := AT.keep K45 (nin2 ne_dT_o ne_dT_b)
  replace EJ := EJ.keep K45
  replace JT := JT.keep K45 (nin2 ne_b0_o ne_b0_b)
  replace E := E.keep K45
  replace YA := YA.keep K45
  have BL : Bld Z _ o u45 ku45 cu45 ([123] : List Int32) := BLn
  have YA := BL.2.1
  show Go Γ n0 _ T (mkF Γ.m 48 #[.val (.long p0), .second, .val (.int p1), .val (.long p2), .second, .val (.ref b0), .val (.int (6 : Int32)), .val (.int fl), .unset, .unset, .unset] [])
  refine k_iload G X at_48 (pc' := 50) rfl rfl ?_
  refine k_iconst G X at_50 (pc' := 51) rfl (z := (2 : Int32)) (by decide) ?_
  refine k_icmp_ne G X at_51 (pc' := 64) rfl (by decide) (pc'' := 54) rfl (fun c51 => ?_) (fun c51 => (absurd c51 (by decide)))
  refine k_iload G X at_64 (pc' := 66) rfl rfl ?_
  refine k_iconst G X at_66 (pc' := 67) rfl (z := (3 : Int32)) (by decide) ?_
  refine k_icmp_ne G X at_67 (pc' := 78) rfl (by decide) (pc'' := 70) rfl (fun c67 => ?_) (fun c67 => (absurd c67 (by decide)))
  refine k_iload G X at_78 (pc' := 80) rfl rfl ?_
  refine k_iconst G X at_80 (pc' := 81) rfl (z := (4 : Int32)) (by decide) ?_
  refine k_icmp_ne G X at_81 (pc' := 99) rfl (by decide) (pc'' := 84) rfl (fun c81 => ?_) (fun c81 => (absurd c81 (by decide)))
  refine k_iload G X at_99 (pc' := 101) rfl rfl ?_
  refine k_iconst G X at_101 (pc' := 102) rfl (z := (5 : Int32)) (by decide) ?_
  refine k_icmp_ne G X at_102 (pc' := 117) rfl (by decide) (pc'' := 105) rfl (fun c102 => ?_) (fun c102 => (absurd c102 (by decide)))
  refine k_iload G X at_117 (pc' := 119) rfl rfl ?_
  refine k_bipush G X at_119 (pc' := 121) rfl (z := (6 : Int32)) (by decide) ?_
  refine k_icmp_ne G X at_121 (pc' := 135) rfl (by decide) (pc'' := 124) rfl (fun c121 => (absurd c121 (by decide))) (fun c121 => ?_)
  refine k_aload G X at_124 (pc' := 126) rfl rfl rfl ?_
  refine k_ldcH G X (n := 4) (vs := ([97] : List Int32)) (z := 1) (w82 hw) (strAtoms hw) (by decide) ⟨by decide, by decide⟩ (by decide) at_126 (pc' := 128) rfl (by decide) (by decide) (by decide) (by decide) (fun T h126 sa sad k126 E126 Xs Fc Fv Fa hne126 X => ?_)
  replace O := O.ext E126
  replace S_CS := S_CS.ext E126
  replace S_FM := S_FM.ext E126
  replace S_FI := S_FI.ext E126
  replace AO := AO.ext E126
  replace AT := AT.ext E126
  replace S_O := S_O.ext E126
  replace S_T := S_T.ext E126
  replace EJ := EJ.ext E126
  replace JT := JT.ext E126
  replace E := E.ext E126
  replace BL := BL.ext E126
  replace YA := YA.ext E126
  have SA1 : Str Z h126 sa sad k126 1 (fun i => ([97] : List Int32).getD i 0) := ⟨Xs, Fc, Fv, Fa⟩
  have X_sa := Xs
  have ne_u45_sa := (hne126 u45 (List.mem_of_getElem? (i := 0) rfl)).1
  have ne_u45_sad := (hne126 u45 (List.mem_of_getElem? (i := 0) rfl)).2
  have ne_o_sa := (hne126 o (List.mem_of_getElem? (i := 1) rfl)).1
  have ne_o_sad := (hne126 o (List.mem_of_getElem? (i := 1) rfl)).2
  have ne_b_sa := (hne126 b (List.mem_of_getElem? (i := 2) rfl)).1
  have ne_b_sad := (hne126 b (List.mem_of_getElem? (i := 2) rfl)).2
  have ne_b0_sa := (hne126 b0 (List.mem_of_getElem? (i := 3) rfl)).1
  have ne_b0_sad := (hne126 b0 (List.mem_of_getElem? (i := 3) rfl)).2
  refine k_lloadN G X at_128 (pc' := 129) rfl rfl ?_
  refine k_callV G X (argsL := [(.ref sa), (.long p2)]) (rest := []) rfl EJ (w314 hw) (w315 hw) (nf_sel (w317 hw)) (w317 hw) (w316 hw) (w2 hw) (w318 hw) (by decide) (mj hw b0 o u45 ku45 cu45 ([123] : List Int32) cs fm 0 123 sa sad k126 (fun i => ([97] : List Int32).getD i 0) fi p2 dO dT kO kT gO gT h126 n0 _ EJ JT ⟨ge_o, (List.mem_of_getElem? (i := 1) rfl)⟩ ⟨ge_u45, (List.mem_of_getElem? (i := 0) rfl)⟩ O BL S_CS hcs S_FM hfm rfl rfl (by decide) (by decide) (by decide) SA1 rfl (Ne.symm ne_o_sa) (Ne.symm ne_o_sad) (Ne.symm ne_u45_sa) (Ne.symm ne_u45_sad) S_FI hfi AO AT S_O S_T hO hT ne_dO_o ne_dT_o ne_dO_u45 ne_dT_u45 (by decide)) at_129 pd41 rfl (pc' := 132) rfl rfl (wd := 0) rfl (by decide) (by decide) (by decide) (by decide) (fun T h129 v sf129 X q => ?_)
  obtain ⟨rfl, K129, u129, ku129, cu129, D, hDD, BLn, hu129, ge_u129, mu129⟩ := q
  replace X := W.only X mu129
  have ne_u129_o : u129 ≠ o := BLn.ne
  have ne_dO_u129 : dO ≠ u129 := ne_new hu129 ne_dO_u45 AO.lt
  have ne_dT_u129 : dT ≠ u129 := ne_new hu129 ne_dT_u45 AT.lt
  have ne_b0_u129 : b0 ≠ u129 := ne_new hu129 ne_b0_u45 EJ.lt
  have ne_sa_u129 : sa ≠ u129 := ne_new hu129 (Ne.symm ne_u45_sa) X_sa.lt
  have ne_sad_u129 : sad ≠ u129 := ne_new hu129 (Ne.symm ne_u45_sad) SA1.lt'
  replace S_CS := Sta_keepL S_CS K129 (allS (Pln_exa E) (allS (Pln_exa YA) (all0)))
  replace S_FM := Sta_keepL S_FM K129 (allS (Pln_exa E) (allS (Pln_exa YA) (all0)))
  replace S_FI := Sta_keepL S_FI K129 (allS (Pln_exa E) (allS (Pln_exa YA) (all0)))
  replace S_O := Sta_keepL S_O K129 (allS (Pln_exa E) (allS (Pln_exa YA) (all0)))
  replace S_T := Sta_keepL S_T K129 (allS (Pln_exa E) (allS (Pln_exa YA) (all0)))
  replace O := O.keep K129 (allS ge_o (allS ge_u45 (all0)))
  replace AO := AO.keep K129 (nin2 ne_dO_o ne_dO_u45)
  replace AT := AT.keep K129 (nin2 ne_dT_o ne_dT_u45)
  replace EJ := EJ.keep K129
  replace JT := JT.keep K129 (nin2 ne_b0_o ne_b0_u45)
  replace E := E.keep K129
  replace YA := YA.keep K129
  replace X_sa := X_sa.keep K129
  replace SA1 := SA1.keep K129 (nin2 (Ne.symm ne_o_sa) (Ne.symm ne_u45_sa)) (nin2 (Ne.symm ne_o_sad) (Ne.symm ne_u45_sad))
  have BL : Bld Z _ o u129 ku129 cu129 (([123, 34, 97, 34, 58] : List Int32) ++ D) := BLn
  have YA := BL.2.1
  obtain ⟨hD1, hD2, hdg⟩ := hDD
  obtain ⟨xd, q_xd⟩ : ∃ x, D.getD (D.length - 1) 0 = x := ⟨_, rfl⟩
  rw [q_xd] at hdg
  have hxd : (([123, 34, 97, 34, 58] : List Int32) ++ D).getD (4 + D.length) 0 = xd := by rw [gd_right (j := D.length - 1) (by first | omega | (simp only [List.length_append, List.length_cons, List.length_nil] <;> omega))]; exact q_xd
  show Go Γ n0 _ T (mkF Γ.m 132 #[.val (.long p0), .second, .val (.int p1), .val (.long p2), .second, .val (.ref b0), .val (.int (6 : Int32)), .val (.int fl), .unset, .unset, .unset] [])
  refine k_goto G X at_132 (by decide) (pc' := 153) rfl ?_
  refine k_aload G X at_153 (pc' := 155) rfl rfl rfl ?_
  refine k_callV G X (argsL := []) (rest := []) rfl EJ (w206 hw) (w207 hw) (nf_sel (w209 hw)) (w209 hw) (w208 hw) (w2 hw) (w210 hw) (by decide) (jtext hw b0 o u129 ku129 cu129 (([123, 34, 97, 34, 58] : List Int32) ++ D) cs h129 n0 _ EJ JT ⟨ge_o, (List.mem_of_getElem? (i := 2) rfl)⟩ ⟨ge_u129, (List.mem_of_getElem? (i := 0) rfl)⟩ O BL S_CS hcs (by first | omega | (simp only [List.length_append, List.length_cons, List.length_nil] <;> omega))) at_155 pd36 rfl (pc' := 158) rfl rfl (wd := 0) rfl (by decide) (by decide) (by decide) (by decide) (fun T h155 v sf155 X q => ?_)
  obtain ⟨s155, r155, k155, rfl, sz_s155, sz_r155, K155, T155, ms155⟩ := q
  replace X := W.only X ms155
  have ne_dO_s155 : dO ≠ s155 := Nat.ne_of_lt (Nat.lt_of_lt_of_le AO.lt sz_s155)
  have ne_dT_s155 : dT ≠ s155 := Nat.ne_of_lt (Nat.lt_of_lt_of_le AT.lt sz_s155)
  have ne_b0_s155 : b0 ≠ s155 := Nat.ne_of_lt (Nat.lt_of_lt_of_le EJ.lt sz_s155)
  have ne_o_s155 : o ≠ s155 := Nat.ne_of_lt (Nat.lt_of_lt_of_le E.lt sz_s155)
  have ne_sa_s155 : sa ≠ s155 := Nat.ne_of_lt (Nat.lt_of_lt_of_le X_sa.lt sz_s155)
  have ne_sad_s155 : sad ≠ s155 := Nat.ne_of_lt (Nat.lt_of_lt_of_le SA1.lt' sz_s155)
  have ne_u129_s155 : u129 ≠ s155 := Nat.ne_of_lt (Nat.lt_of_lt_of_le BL.lt' sz_s155)
  have ne_dO_r155 : dO ≠ r155 := Nat.ne_of_lt (Nat.lt_of_lt_of_le AO.lt sz_r155)
  have ne_dT_r155 : dT ≠ r155 := Nat.ne_of_lt (Nat.lt_of_lt_of_le AT.lt sz_r155)
  have ne_b0_r155 : b0 ≠ r155 := Nat.ne_of_lt (Nat.lt_of_lt_of_le EJ.lt sz_r155)
  have ne_o_r155 : o ≠ r155 := Nat.ne_of_lt (Nat.lt_of_lt_of_le E.lt sz_r155)
  have ne_sa_r155 : sa ≠ r155 := Nat.ne_of_lt (Nat.lt_of_lt_of_le X_sa.lt sz_r155)
  have ne_sad_r155 : sad ≠ r155 := Nat.ne_of_lt (Nat.lt_of_lt_of_le SA1.lt' sz_r155)
  have ne_u129_r155 : u129 ≠ r155 := Nat.ne_of_lt (Nat.lt_of_lt_of_le BL.lt' sz_r155)
  replace S_CS := Jvm.OwnK.Sta_keep S_CS K155
  replace S_FM := Jvm.OwnK.Sta_keep S_FM K155
  replace S_FI := Jvm.OwnK.Sta_keep S_FI K155
  replace S_O := Jvm.OwnK.Sta_keep S_O K155
  replace S_T := Jvm.OwnK.Sta_keep S_T K155
  replace O := O.keep K155 (all0)
  replace AO := AO.keep K155 nin0
  replace AT := AT.keep K155 nin0
  replace EJ := EJ.keep K155
  replace JT := JT.keep K155 nin0
  replace E := E.keep K155
  replace X_sa := X_sa.keep K155
  replace SA1 := SA1.keep K155 nin0 nin0
  replace BL := BL.keep K155 nin0 nin0
  replace YA := YA.keep K155
  have T155 : Str Z h155 s155 r155 k155 (5 + D.length) (fun i => (([123, 34, 97, 34, 58] : List Int32) ++ D).getD i 0) := by have q := T155; rw [show List.length ((([123, 34, 97, 34, 58] : List Int32) ++ D) : List Int32) = (5 + D.length) by simp; omega] at q; exact q
  obtain ⟨z155, hz155⟩ : ∃ z : Int32, z.toInt = ((5 + D.length) : Nat) := ⟨Nat.toInt32 (5 + D.length), len_toInt (by omega)⟩
  have X_s155 := T155.1
  show Go Γ n0 _ T (mkF Γ.m 158 #[.val (.long p0), .second, .val (.int p1), .val (.long p2), .second, .val (.ref b0), .val (.int (6 : Int32)), .val (.int fl), .unset, .unset, .unset] [(.ref s155)])
  refine k_astore G X at_158 (pc' := 160) rfl rfl (l' := #[.val (.long p0), .second, .val (.int p1), .val (.long p2), .second, .val (.ref b0), .val (.int (6 : Int32)), .val (.int fl), .val (.ref s155), .unset, .unset]) rfl ?_
  refine k_aload G X at_160 (pc' := 162) rfl rfl rfl ?_
  refine k_callV G X (argsL := []) (rest := []) rfl EJ (w38 hw) (w39 hw) (nf_sel (w41 hw)) (w41 hw) (w40 hw) (w2 hw) (w42 hw) (by decide) (boC hw b0 o u129 ku129 cu129 (([123, 34, 97, 34, 58] : List Int32) ++ D) cs fm (4 + D.length) xd h155 n0 _ EJ JT ⟨ge_o, (List.mem_of_getElem? (i := 3) rfl)⟩ ⟨ge_u129, (List.mem_of_getElem? (i := 1) rfl)⟩ O BL S_CS hcs S_FM hfm (by first | omega | (simp only [List.length_append, List.length_cons, List.length_nil] <;> omega)) hxd (by have := hdg.1; omega) (by have := hdg.2; omega) (fun q => by rw [q] at hdg; exact absurd hdg.2 (by decide)) (fun q => by rw [q] at hdg; exact absurd hdg.2 (by decide)) (by first | omega | (simp only [List.length_append, List.length_cons, List.length_nil] <;> omega))) at_162 pd31 rfl (pc' := 165) rfl rfl (wd := 0) rfl (by decide) (by decide) (by decide) (by decide) (fun T h162 v sf162 X q => ?_)
  obtain ⟨rfl, K162, u162, ku162, cu162, BLn, hu162, ge_u162, mu162⟩ := q
  replace X := W.only X mu162
  have ne_u162_o : u162 ≠ o := BLn.ne
  have ne_dO_u162 : dO ≠ u162 := ne_new hu162 ne_dO_u129 AO.lt
  have ne_dT_u162 : dT ≠ u162 := ne_new hu162 ne_dT_u129 AT.lt
  have ne_b0_u162 : b0 ≠ u162 := ne_new hu162 ne_b0_u129 EJ.lt
  have ne_sa_u162 : sa ≠ u162 := ne_new hu162 ne_sa_u129 X_sa.lt
  have ne_sad_u162 : sad ≠ u162 := ne_new hu162 ne_sad_u129 SA1.lt'
  have ne_s155_u162 : s155 ≠ u162 := ne_new hu162 (Ne.symm ne_u129_s155) T155.lt
  have ne_r155_u162 : r155 ≠ u162 := ne_new hu162 (Ne.symm ne_u129_r155) T155.lt'
  replace S_CS := Sta_keepL S_CS K162 (allS (Pln_exa E) (allS (Pln_exa YA) (all0)))
  replace S_FM := Sta_keepL S_FM K162 (allS (Pln_exa E) (allS (Pln_exa YA) (all0)))
  replace S_FI := Sta_keepL S_FI K162 (allS (Pln_exa E) (allS (Pln_exa YA) (all0)))
  replace S_O := Sta_keepL S_O K162 (allS (Pln_exa E) (allS (Pln_exa YA) (all0)))
  replace S_T := Sta_keepL S_T K162 (allS (Pln_exa E) (allS (Pln_exa YA) (all0)))
  replace O := O.keep K162 (allS ge_o (allS ge_u129 (all0)))
  replace AO := AO.keep K162 (nin2 ne_dO_o ne_dO_u129)
  replace AT := AT.keep K162 (nin2 ne_dT_o ne_dT_u129)
  replace EJ := EJ.keep K162
  replace JT := JT.keep K162 (nin2 ne_b0_o ne_b0_u129)
  replace E := E.keep K162
  replace X_sa := X_sa.keep K162
  replace SA1 := SA1.keep K162 (nin2 (Ne.symm ne_o_sa) ne_sa_u129) (nin2 (Ne.symm ne_o_sad) ne_sad_u129)
  replace YA := YA.keep K162
  replace T155 := T155.keep K162 (nin2 (Ne.symm ne_o_s155) (Ne.symm ne_u129_s155)) (nin2 (Ne.symm ne_o_r155) (Ne.symm ne_u129_r155))
  replace X_s155 := X_s155.keep K162
  have BL : Bld Z _ o u162 ku162 cu162 (((([123, 34, 97, 34, 58] : List Int32) ++ D) ++ [44]) ++ [123]) := BLn
  have YA := BL.2.1
  show Go Γ n0 _ T (mkF Γ.m 165 #[.val (.long p0), .second, .val (.int p1), .val (.long p2), .second, .val (.ref b0), .val (.int (6 : Int32)), .val (.int fl), .val (.ref s155), .unset, .unset] [])
  refine k_aload G X at_165 (pc' := 167) rfl rfl rfl ?_
  refine k_callV G X (argsL := []) (rest := []) rfl EJ (w206 hw) (w207 hw) (nf_sel (w209 hw)) (w209 hw) (w208 hw) (w2 hw) (w210 hw) (by decide) (jtext hw b0 o u162 ku162 cu162 (((([123, 34, 97, 34, 58] : List Int32) ++ D) ++ [44]) ++ [123]) cs h162 n0 _ EJ JT ⟨ge_o, (List.mem_of_getElem? (i := 4) rfl)⟩ ⟨ge_u162, (List.mem_of_getElem? (i := 0) rfl)⟩ O BL S_CS hcs (by first | omega | (simp only [List.length_append, List.length_cons, List.length_nil] <;> omega))) at_167 pd36 rfl (pc' := 170) rfl rfl (wd := 0) rfl (by decide) (by decide) (by decide) (by decide) (fun T h167 v sf167 X q => ?_)
  obtain ⟨s167, r167, k167, rfl, sz_s167, sz_r167, K167, T167, ms167⟩ := q
  replace X := W.only X ms167
  have ne_dO_s167 : dO ≠ s167 := Nat.ne_of_lt (Nat.lt_of_lt_of_le AO.lt sz_s167)
  have ne_dT_s167 : dT ≠ s167 := Nat.ne_of_lt (Nat.lt_of_lt_of_le AT.lt sz_s167)
  have ne_b0_s167 : b0 ≠ s167 := Nat.ne_of_lt (Nat.lt_of_lt_of_le EJ.lt sz_s167)
  have ne_o_s167 : o ≠ s167 := Nat.ne_of_lt (Nat.lt_of_lt_of_le E.lt sz_s167)
  have ne_sa_s167 : sa ≠ s167 := Nat.ne_of_lt (Nat.lt_of_lt_of_le X_sa.lt sz_s167)
  have ne_sad_s167 : sad ≠ s167 := Nat.ne_of_lt (Nat.lt_of_lt_of_le SA1.lt' sz_s167)
  have ne_s155_s167 : s155 ≠ s167 := Nat.ne_of_lt (Nat.lt_of_lt_of_le T155.lt sz_s167)
  have ne_r155_s167 : r155 ≠ s167 := Nat.ne_of_lt (Nat.lt_of_lt_of_le T155.lt' sz_s167)
  have ne_u162_s167 : u162 ≠ s167 := Nat.ne_of_lt (Nat.lt_of_lt_of_le BL.lt' sz_s167)
  have ne_dO_r167 : dO ≠ r167 := Nat.ne_of_lt (Nat.lt_of_lt_of_le AO.lt sz_r167)
  have ne_dT_r167 : dT ≠ r167 := Nat.ne_of_lt (Nat.lt_of_lt_of_le AT.lt sz_r167)
  have ne_b0_r167 : b0 ≠ r167 := Nat.ne_of_lt (Nat.lt_of_lt_of_le EJ.lt sz_r167)
  have ne_o_r167 : o ≠ r167 := Nat.ne_of_lt (Nat.lt_of_lt_of_le E.lt sz_r167)
  have ne_sa_r167 : sa ≠ r167 := Nat.ne_of_lt (Nat.lt_of_lt_of_le X_sa.lt sz_r167)
  have ne_sad_r167 : sad ≠ r167 := Nat.ne_of_lt (Nat.lt_of_lt_of_le SA1.lt' sz_r167)
  have ne_s155_r167 : s155 ≠ r167 := Nat.ne_of_lt (Nat.lt_of_lt_of_le T155.lt sz_r167)
  have ne_r155_r167 : r155 ≠ r167 := Nat.ne_of_lt (Nat.lt_of_lt_of_le T155.lt' sz_r167)
  have ne_u162_r167 : u162 ≠ r167 := Nat.ne_of_lt (Nat.lt_of_lt_of_le BL.lt' sz_r167)
  replace S_CS := Jvm.OwnK.Sta_keep S_CS K167
  replace S_FM := Jvm.OwnK.Sta_keep S_FM K167
  replace S_FI := Jvm.OwnK.Sta_keep S_FI K167
  replace S_O := Jvm.OwnK.Sta_keep S_O K167
  replace S_T := Jvm.OwnK.Sta_keep S_T K167
  replace O := O.keep K167 (all0)
  replace AO := AO.keep K167 nin0
  replace AT := AT.keep K167 nin0
  replace EJ := EJ.keep K167
  replace JT := JT.keep K167 nin0
  replace E := E.keep K167
  replace X_sa := X_sa.keep K167
  replace SA1 := SA1.keep K167 nin0 nin0
  replace T155 := T155.keep K167 nin0 nin0
  replace X_s155 := X_s155.keep K167
  replace BL := BL.keep K167 nin0 nin0
  replace YA := YA.keep K167
  have T167 : Str Z h167 s167 r167 k167 (5 + D.length + 2) (fun i => (((([123, 34, 97, 34, 58] : List Int32) ++ D) ++ [44]) ++ [123]).getD i 0) := by have q := T167; rw [show List.length ((((([123, 34, 97, 34, 58] : List Int32) ++ D) ++ [44]) ++ [123]) : List Int32) = (5 + D.length + 2) by simp; omega] at q; exact q
  obtain ⟨z167, hz167⟩ : ∃ z : Int32, z.toInt = ((5 + D.length + 2) : Nat) := ⟨Nat.toInt32 (5 + D.length + 2), len_toInt (by omega)⟩
  have X_s167 := T167.1
  show Go Γ n0 _ T (mkF Γ.m 170 #[.val (.long p0), .second, .val (.int p1), .val (.long p2), .second, .val (.ref b0), .val (.int (6 : Int32)), .val (.int fl), .val (.ref s155), .unset, .unset] [(.ref s167)])
  refine k_astore G X at_170 (pc' := 172) rfl rfl (l' := #[.val (.long p0), .second, .val (.int p1), .val (.long p2), .second, .val (.ref b0), .val (.int (6 : Int32)), .val (.int fl), .val (.ref s155), .val (.ref s167), .unset]) rfl ?_
  refine k_iload G X at_172 (pc' := 174) rfl rfl ?_
  refine k_if_ne G X at_174 (pc' := 185) rfl (by decide) (pc'' := 177) rfl (fun c174 => ?_) (fun c174 => (absurd c174 (by decide)))
  refine k_iload G X at_185 (pc' := 187) rfl rfl ?_
  refine k_iconst G X at_187 (pc' := 188) rfl (z := (1 : Int32)) (by decide) ?_
  refine k_icmp_ne G X at_188 (pc' := 199) rfl (by decide) (pc'' := 191) rfl (fun c188 => ?_) (fun c188 => (absurd c188 (by decide)))
  refine k_iload G X at_199 (pc' := 201) rfl rfl ?_
  refine k_iconst G X at_201 (pc' := 202) rfl (z := (2 : Int32)) (by decide) ?_
  refine k_icmp_ne G X at_202 (pc' := 213) rfl (by decide) (pc'' := 205) rfl (fun c202 => ?_) (fun c202 => (absurd c202 (by decide)))
  refine k_iload G X at_213 (pc' := 215) rfl rfl ?_
  refine k_iconst G X at_215 (pc' := 216) rfl (z := (3 : Int32)) (by decide) ?_
  refine k_icmp_ne G X at_216 (pc' := 227) rfl (by decide) (pc'' := 219) rfl (fun c216 => ?_) (fun c216 => (absurd c216 (by decide)))
  refine k_iload G X at_227 (pc' := 229) rfl rfl ?_
  refine k_iconst G X at_229 (pc' := 230) rfl (z := (4 : Int32)) (by decide) ?_
  refine k_icmp_ne G X at_230 (pc' := 241) rfl (by decide) (pc'' := 233) rfl (fun c230 => ?_) (fun c230 => (absurd c230 (by decide)))
  refine k_iload G X at_241 (pc' := 243) rfl rfl ?_
  refine k_iconst G X at_243 (pc' := 244) rfl (z := (5 : Int32)) (by decide) ?_
  refine k_icmp_ne G X at_244 (pc' := 268) rfl (by decide) (pc'' := 247) rfl (fun c244 => ?_) (fun c244 => (absurd c244 (by decide)))
  refine k_iload G X at_268 (pc' := 270) rfl rfl ?_
  refine k_bipush G X at_270 (pc' := 272) rfl (z := (7 : Int32)) (by decide) ?_
  refine k_icmp_ne G X at_272 (pc' := 283) rfl (by decide) (pc'' := 275) rfl (fun c272 => ?_) (fun c272 => (absurd c272 (by decide)))
  refine k_aload G X at_283 (pc' := 285) rfl rfl rfl ?_
  refine k_callV G X (argsL := []) (rest := []) rfl X_s155 (w341 hw) (w122 hw) (nf_sel (w124 hw)) (w124 hw) (w123 hw) (w29 hw) (w125 hw) (by decide) (str_len hw s155 r155 k155 (5 + D.length) z155 cs (fun i => (([123, 34, 97, 34, 58] : List Int32) ++ D).getD i 0) h167 n0 _ T155 hz155 S_CS hcs) at_285 pd11 rfl (pc' := 288) rfl rfl (wd := 0) rfl (by decide) (by decide) (by decide) (by decide) (fun T h285 v sf285 X q => ?_)
  replace X := W.drop X
  obtain ⟨rfl, e285⟩ := q
  replace X := X.eq e285
  show Go Γ n0 _ T (mkF Γ.m 288 #[.val (.long p0), .second, .val (.int p1), .val (.long p2), .second, .val (.ref b0), .val (.int (6 : Int32)), .val (.int fl), .val (.ref s155), .val (.ref s167), .unset] [(.int z155)])
  refine k_istore G X at_288 (pc' := 290) rfl (l' := #[.val (.long p0), .second, .val (.int p1), .val (.long p2), .second, .val (.ref b0), .val (.int (6 : Int32)), .val (.int fl), .val (.ref s155), .val (.ref s167), .val (.int z155)]) rfl ?_
  refine k_iload G X at_290 (pc' := 292) rfl rfl ?_
  refine k_bipush G X at_292 (pc' := 294) rfl (z := (6 : Int32)) (by decide) ?_
  refine k_icmp_ge G X at_294 (pc' := 299) rfl (by decide) (pc'' := 297) rfl (fun c294 => ?_) (fun c294 => (absurd c294 (by rw [show (6 : Int32).toInt = 6 from rfl]; omega)))
  have e1 : (1 : Int32).toInt = 1 := rfl
  have e2 : (2 : Int32).toInt = 2 := rfl
  have hjm : (z155 - (1 : Int32)).toInt = (4 + D.length : Nat) := by rw [isub_toInt (by omega) (by omega)]; omega
  have hjp : (z155 + (1 : Int32)).toInt = (5 + D.length + 1 : Nat) := by rw [iadd_toInt (by omega) (by omega)]; omega
  have hlen : z167 = z155 + (2 : Int32) := of_toInt (by rw [iadd_toInt (by omega) (by omega)]; omega)
  refine k_aload G X at_299 (pc' := 301) rfl rfl rfl ?_
  refine k_callV G X (argsL := []) (rest := []) rfl X_s167 (w341 hw) (w122 hw) (nf_sel (w124 hw)) (w124 hw) (w123 hw) (w29 hw) (w125 hw) (by decide) (str_len hw s167 r167 k167 (5 + D.length + 2) z167 cs (fun i => (((([123, 34, 97, 34, 58] : List Int32) ++ D) ++ [44]) ++ [123]).getD i 0) h167 n0 _ T167 hz167 S_CS hcs) at_301 pd11 rfl (pc' := 304) rfl rfl (wd := 0) rfl (by decide) (by decide) (by decide) (by decide) (fun T h301 v sf301 X q => ?_)
  replace X := W.drop X
  obtain ⟨rfl, e301⟩ := q
  replace X := X.eq e301
  show Go Γ n0 _ T (mkF Γ.m 304 #[.val (.long p0), .second, .val (.int p1), .val (.long p2), .second, .val (.ref b0), .val (.int (6 : Int32)), .val (.int fl), .val (.ref s155), .val (.ref s167), .val (.int z155)] [(.int z167)])
  refine k_iload G X at_304 (pc' := 306) rfl rfl ?_
  refine k_iconst G X at_306 (pc' := 307) rfl (z := (2 : Int32)) (by decide) ?_
  refine k_iadd G X at_307 (pc' := 308) rfl rfl ?_
  refine k_icmp_ne G X at_308 (pc' := 373) rfl (by decide) (pc'' := 311) rfl (fun c308 => (absurd c308 (by simpa using hlen))) (fun c308 => ?_)
  refine k_aload G X at_311 (pc' := 313) rfl rfl rfl ?_
  refine k_iconst G X at_313 (pc' := 314) rfl (z := (0 : Int32)) (by decide) ?_
  refine k_callV G X (argsL := [(.int (0 : Int32))]) (rest := []) rfl X_s167 (w342 hw) (w135 hw) (nf_sel (w137 hw)) (w137 hw) (w136 hw) (w29 hw) (w138 hw) (by decide) (str_at hw s167 r167 k167 (5 + D.length + 2) 0 z167 cs (0 : Int32) (fun i => (((([123, 34, 97, 34, 58] : List Int32) ++ D) ++ [44]) ++ [123]).getD i 0) fm h167 n0 _ T167 hz167 S_CS hcs rfl (by omega) S_FM hfm) at_314 pd26 rfl (pc' := 317) rfl rfl (wd := 0) rfl (by decide) (by decide) (by decide) (by decide) (fun T h314 v sf314 X q => ?_)
  replace X := W.drop X
  obtain ⟨c314_, rfl, hr314, e314⟩ := q
  replace X := X.eq e314
  obtain rfl : (123 : Int32) = c314_ := of_toInt (by rw [hr314]; exact (by show (_ : Int) = (123 : Int32).toInt % 256; decide))
  show Go Γ n0 _ T (mkF Γ.m 317 #[.val (.long p0), .second, .val (.int p1), .val (.long p2), .second, .val (.ref b0), .val (.int (6 : Int32)), .val (.int fl), .val (.ref s155), .val (.ref s167), .val (.int z155)] [(.int (123 : Int32))])
  refine k_bipush G X at_317 (pc' := 319) rfl (z := (123 : Int32)) (by decide) ?_
  refine k_icmp_ne G X at_319 (pc' := 373) rfl (by decide) (pc'' := 322) rfl (fun c319 => (absurd c319 (by decide))) (fun c319 => ?_)
  refine k_aload G X at_322 (pc' := 324) rfl rfl rfl ?_
  refine k_iload G X at_324 (pc' := 326) rfl rfl ?_
  refine k_iconst G X at_326 (pc' := 327) rfl (z := (1 : Int32)) (by decide) ?_
  refine k_isub G X at_327 (pc' := 328) rfl rfl ?_
  refine k_callV G X (argsL := [(.int (z155 - (1 : Int32)))]) (rest := []) rfl X_s167 (w342 hw) (w135 hw) (nf_sel (w137 hw)) (w137 hw) (w136 hw) (w29 hw) (w138 hw) (by decide) (str_at hw s167 r167 k167 (5 + D.length + 2) (4 + D.length) z167 cs (z155 - (1 : Int32)) (fun i => (((([123, 34, 97, 34, 58] : List Int32) ++ D) ++ [44]) ++ [123]).getD i 0) fm h167 n0 _ T167 hz167 S_CS hcs hjm (by omega) S_FM hfm) at_328 pd26 rfl (pc' := 331) rfl rfl (wd := 0) rfl (by decide) (by decide) (by decide) (by decide) (fun T h328 v sf328 X q => ?_)
  replace X := W.drop X
  obtain ⟨c328_, rfl, hr328, e328⟩ := q
  replace X := X.eq e328
  show Go Γ n0 _ T (mkF Γ.m 331 #[.val (.long p0), .second, .val (.int p1), .val (.long p2), .second, .val (.ref b0), .val (.int (6 : Int32)), .val (.int fl), .val (.ref s155), .val (.ref s167), .val (.int z155)] [(.int c328_)])
  refine k_aload G X at_331 (pc' := 333) rfl rfl rfl ?_
  refine k_iload G X at_333 (pc' := 335) rfl rfl ?_
  refine k_iconst G X at_335 (pc' := 336) rfl (z := (1 : Int32)) (by decide) ?_
  refine k_isub G X at_336 (pc' := 337) rfl rfl ?_
  refine k_callV G X (argsL := [(.int (z155 - (1 : Int32)))]) (rest := [(.int c328_)]) rfl X_s155 (w342 hw) (w135 hw) (nf_sel (w137 hw)) (w137 hw) (w136 hw) (w29 hw) (w138 hw) (by decide) (str_at hw s155 r155 k155 (5 + D.length) (4 + D.length) z155 cs (z155 - (1 : Int32)) (fun i => (([123, 34, 97, 34, 58] : List Int32) ++ D).getD i 0) fm h167 n0 _ T155 hz155 S_CS hcs hjm (by omega) S_FM hfm) at_337 pd26 rfl (pc' := 340) rfl rfl (wd := 1) rfl (by decide) (by decide) (by decide) (by decide) (fun T h337 v sf337 X q => ?_)
  replace X := W.drop X
  obtain ⟨c337_, rfl, hr337, e337⟩ := q
  replace X := X.eq e337
  show Go Γ n0 _ T (mkF Γ.m 340 #[.val (.long p0), .second, .val (.int p1), .val (.long p2), .second, .val (.ref b0), .val (.int (6 : Int32)), .val (.int fl), .val (.ref s155), .val (.ref s167), .val (.int z155)] [(.int c337_), (.int c328_)])
  refine k_icmp_ne G X at_340 (pc' := 373) rfl (by decide) (pc'' := 343) rfl (fun c340 => (absurd c340 (by have hab : c328_ = c337_ := of_toInt (by rw [hr328, hr337, gd_left (by first | omega | (simp only [List.length_append, List.length_cons, List.length_nil] <;> omega)), gd_left (by first | omega | (simp only [List.length_append, List.length_cons, List.length_nil] <;> omega))]); simpa using hab))) (fun c340 => ?_)
  refine k_aload G X at_343 (pc' := 345) rfl rfl rfl ?_
  refine k_iload G X at_345 (pc' := 347) rfl rfl ?_
  refine k_callV G X (argsL := [(.int z155)]) (rest := []) rfl X_s167 (w342 hw) (w135 hw) (nf_sel (w137 hw)) (w137 hw) (w136 hw) (w29 hw) (w138 hw) (by decide) (str_at hw s167 r167 k167 (5 + D.length + 2) (5 + D.length) z167 cs z155 (fun i => (((([123, 34, 97, 34, 58] : List Int32) ++ D) ++ [44]) ++ [123]).getD i 0) fm h167 n0 _ T167 hz167 S_CS hcs hz155 (by omega) S_FM hfm) at_347 pd26 rfl (pc' := 350) rfl rfl (wd := 0) rfl (by decide) (by decide) (by decide) (by decide) (fun T h347 v sf347 X q => ?_)
  replace X := W.drop X
  obtain ⟨c347_, rfl, hr347, e347⟩ := q
  replace X := X.eq e347
  obtain rfl : (44 : Int32) = c347_ := of_toInt (by rw [hr347]; exact (by rw [gd_left (by first | omega | (simp only [List.length_append, List.length_cons, List.length_nil] <;> omega)), gd_right (j := 0) (by first | omega | (simp only [List.length_append, List.length_cons, List.length_nil] <;> omega))]; decide))
  show Go Γ n0 _ T (mkF Γ.m 350 #[.val (.long p0), .second, .val (.int p1), .val (.long p2), .second, .val (.ref b0), .val (.int (6 : Int32)), .val (.int fl), .val (.ref s155), .val (.ref s167), .val (.int z155)] [(.int (44 : Int32))])
  refine k_bipush G X at_350 (pc' := 352) rfl (z := (44 : Int32)) (by decide) ?_
  refine k_icmp_ne G X at_352 (pc' := 373) rfl (by decide) (pc'' := 355) rfl (fun c352 => (absurd c352 (by decide))) (fun c352 => ?_)
  refine k_aload G X at_355 (pc' := 357) rfl rfl rfl ?_
  refine k_iload G X at_357 (pc' := 359) rfl rfl ?_
  refine k_iconst G X at_359 (pc' := 360) rfl (z := (1 : Int32)) (by decide) ?_
  refine k_iadd G X at_360 (pc' := 361) rfl rfl ?_
  refine k_callV G X (argsL := [(.int (z155 + (1 : Int32)))]) (rest := []) rfl X_s167 (w342 hw) (w135 hw) (nf_sel (w137 hw)) (w137 hw) (w136 hw) (w29 hw) (w138 hw) (by decide) (str_at hw s167 r167 k167 (5 + D.length + 2) (5 + D.length + 1) z167 cs (z155 + (1 : Int32)) (fun i => (((([123, 34, 97, 34, 58] : List Int32) ++ D) ++ [44]) ++ [123]).getD i 0) fm h167 n0 _ T167 hz167 S_CS hcs hjp (by omega) S_FM hfm) at_361 pd26 rfl (pc' := 364) rfl rfl (wd := 0) rfl (by decide) (by decide) (by decide) (by decide) (fun T h361 v sf361 X q => ?_)
  replace X := W.drop X
  obtain ⟨c361_, rfl, hr361, e361⟩ := q
  replace X := X.eq e361
  obtain rfl : (123 : Int32) = c361_ := of_toInt (by rw [hr361]; exact (by rw [gd_right (j := 0) (by first | omega | (simp only [List.length_append, List.length_cons, List.length_nil] <;> omega))] <;> decide))
  show Go Γ n0 _ T (mkF Γ.m 364 #[.val (.long p0), .second, .val (.int p1), .val (.long p2), .second, .val (.ref b0), .val (.int (6 : Int32)), .val (.int fl), .val (.ref s155), .val (.ref s167), .val (.int z155)] [(.int (123 : Int32))])
  refine k_bipush G X at_364 (pc' := 366) rfl (z := (123 : Int32)) (by decide) ?_
  refine k_icmp_ne G X at_366 (pc' := 373) rfl (by decide) (pc'' := 369) rfl (fun c366 => (absurd c366 (by decide))) (fun c366 => ?_)
  refine k_iconst G X at_369 (pc' := 370) rfl (z := (1 : Int32)) (by decide) ?_
  refine k_goto G X at_370 (by decide) (pc' := 374) rfl ?_
  refine k_retb G X at_374 (t := .boolean) rfl (by simp) rfl ?_ (by decide) (by decide)
  rfl
set_option maxRecDepth 65536 in
set_option maxHeartbeats 40000000 in
theorem md7 {Z : State} {a0 : Array Value} (hw : HW a0 Z) (p0 : Int64) (p1 cs : Int32) (p2 : Int64) (fm fi : Value) (dO dT : Addr) (kO kT : ClassId) (gO gT : Nat → Int32) (b0 o b : Addr) (k : ClassId) (nn : Nat) (fl : Int32) (h0 h9 : Heap) (n0 : Nat) (O : Old Z n0 h9) (S_CS : Sta Z h9 "java/lang/String" "COMPACT_STRINGS" "Z" (.int cs)) (hcs : cs ≠ 0) (S_FM : Sta Z h9 "jdk/internal/util/Preconditions" "SIOOBE_FORMATTER" "Ljava/util/function/BiFunction;" fm) (hfm : fm.isRef = true) (S_FI : Sta Z h9 "jdk/internal/util/Preconditions" "IOOBE_FORMATTER" "Ljava/util/function/BiFunction;" fi) (hfi : fi.isRef = true) (AO : Arf Z h9 dO kO .byte 100 (fun i => .int (gO i))) (AT : Arf Z h9 dT kT .byte 100 (fun i => .int (gT i))) (S_O : Sta Z h9 "java/lang/Integer" "DigitOnes" "[B" (.ref dO)) (S_T : Sta Z h9 "java/lang/Integer" "DigitTens" "[B" (.ref dT)) (hO : ∀ i, i < 100 → dig (gO i)) (hT : ∀ i, i < 100 → dig (gT i)) (EJ : Exa Z h9 b0 "com/example/half_message_commit/halfmessagecommit/protocol/JsonWriter") (JT : Fld Z h9 b0 "com/example/half_message_commit/halfmessagecommit/protocol/JsonWriter" "text" "Ljava/lang/StringBuilder;" (.ref o)) (BL : Bld Z h9 o b k nn []) (ge_b0 : n0 ≤ b0) (ge_o : n0 ≤ o) (ge_b : n0 ≤ b) (ne_b_o : b ≠ o) (ne_b0_b : b0 ≠ b) (ne_b0_o : b0 ≠ o) (ne_dO_b : dO ≠ b) (ne_dO_b0 : dO ≠ b0) (ne_dO_o : dO ≠ o) (ne_dT_b : dT ≠ b) (ne_dT_b0 : dT ≠ b0) (ne_dT_o : dT ≠ o) (hfl : fl = 0 ∨ fl = 1) (Γ : Cx) (T : State) (G : Ctx Γ Z consts_1 x.cls code maxLocals ret x.name room_1 h0) (X : W Γ n0 T h9 3 65540 (b :: b0 :: [])) : Go Γ n0 (fun v h sf => v = some (.int 1)) T (mkF Γ.m 38 #[.val (.long p0), .second, .val (.int p1), .val (.long p2), .second, .val (.ref b0), .val (.int (7 : Int32)), .val (.int fl), .unset, .unset, .unset] []) := by
  have E := BL.1
  have YA := BL.2.1
  refine k_iload G X at_38 (pc' := 40) rfl rfl ?_
  refine k_if_eq G X at_40 (pc' := 48) rfl (by decide) (pc'' := 43) rfl (fun c40 => (absurd c40 (by decide))) (fun c40 => ?_)
  refine k_aload G X at_43 (pc' := 45) rfl rfl rfl ?_
  replace X := W.addE G X E (by decide) (by decide)
  refine k_callV G X (argsL := []) (rest := []) rfl EJ (w38 hw) (w39 hw) (nf_sel (w41 hw)) (w41 hw) (w40 hw) (w2 hw) (w42 hw) (by decide) (boE hw b0 o b k nn ([] : List Int32) cs  h9 n0 _ EJ JT ⟨ge_o, (List.mem_of_getElem? (i := 0) rfl)⟩ ⟨ge_b, (List.mem_of_getElem? (i := 1) rfl)⟩ O BL S_CS hcs rfl) at_45 pd31 rfl (pc' := 48) rfl rfl (wd := 0) rfl (by decide) (by decide) (by decide) (by decide) (fun T h45 v sf45 X q => ?_)
  obtain ⟨rfl, K45, u45, ku45, cu45, BLn, hu45, ge_u45, mu45⟩ := q
  replace X := W.only X mu45
  have ne_u45_o : u45 ≠ o := BLn.ne
  have ne_dO_u45 : dO ≠ u45 := ne_new hu45 ne_dO_b AO.lt
  have ne_dT_u45 : dT ≠ u45 := ne_new hu45 ne_dT_b AT.lt
  have ne_b0_u45 : b0 ≠ u45 := ne_new hu45 ne_b0_b EJ.lt
  replace S_CS := Sta_keepL S_CS K45 (allS (Pln_exa E) (allS (Pln_exa YA) (all0)))
  replace S_FM := Sta_keepL S_FM K45 (allS (Pln_exa E) (allS (Pln_exa YA) (all0)))
  replace S_FI := Sta_keepL S_FI K45 (allS (Pln_exa E) (allS (Pln_exa YA) (all0)))
  replace S_O := Sta_keepL S_O K45 (allS (Pln_exa E) (allS (Pln_exa YA) (all0)))
  replace S_T := Sta_keepL S_T K45 (allS (Pln_exa E) (allS (Pln_exa YA) (all0)))
  replace O := O.keep K45 (allS ge_o (allS ge_b (all0)))
  replace AO := AO.keep K45 (nin2 ne_dO_o ne_dO_b)
  replace AT := AT.keep K45 (nin2 ne_dT_o ne_dT_b)
  replace EJ := EJ.keep K45
  replace JT := JT.keep K45 (nin2 ne_b0_o ne_b0_b)
  replace E := E.keep K45
  replace YA := YA.keep K45
  have BL : Bld Z _ o u45 ku45 cu45 ([123] : List Int32) := BLn
  have YA := BL.2.1
  show Go Γ n0 _ T (mkF Γ.m 48 #[.val (.long p0), .second, .val (.int p1), .val (.long p2), .second, .val (.ref b0), .val (.int (7 : Int32)), .val (.int fl), .unset, .unset, .unset] [])
  refine k_iload G X at_48 (pc' := 50) rfl rfl ?_
  refine k_iconst G X at_50 (pc' := 51) rfl (z := (2 : Int32)) (by decide) ?_
  refine k_icmp_ne G X at_51 (pc' := 64) rfl (by decide) (pc'' := 54) rfl (fun c51 => ?_) (fun c51 => (absurd c51 (by decide)))
  refine k_iload G X at_64 (pc' := 66) rfl rfl ?_
  refine k_iconst G X at_66 (pc' := 67) rfl (z := (3 : Int32)) (by decide) ?_
  refine k_icmp_ne G X at_67 (pc' := 78) rfl (by decide) (pc'' := 70) rfl (fun c67 => ?_) (fun c67 => (absurd c67 (by decide)))
  refine k_iload G X at_78 (pc' := 80) rfl rfl ?_
  refine k_iconst G X at_80 (pc' := 81) rfl (z := (4 : Int32)) (by decide) ?_
  refine k_icmp_ne G X at_81 (pc' := 99) rfl (by decide) (pc'' := 84) rfl (fun c81 => ?_) (fun c81 => (absurd c81 (by decide)))
  refine k_iload G X at_99 (pc' := 101) rfl rfl ?_
  refine k_iconst G X at_101 (pc' := 102) rfl (z := (5 : Int32)) (by decide) ?_
  refine k_icmp_ne G X at_102 (pc' := 117) rfl (by decide) (pc'' := 105) rfl (fun c102 => ?_) (fun c102 => (absurd c102 (by decide)))
  refine k_iload G X at_117 (pc' := 119) rfl rfl ?_
  refine k_bipush G X at_119 (pc' := 121) rfl (z := (6 : Int32)) (by decide) ?_
  refine k_icmp_ne G X at_121 (pc' := 135) rfl (by decide) (pc'' := 124) rfl (fun c121 => ?_) (fun c121 => (absurd c121 (by decide)))
  refine k_iload G X at_135 (pc' := 137) rfl rfl ?_
  refine k_bipush G X at_137 (pc' := 139) rfl (z := (7 : Int32)) (by decide) ?_
  refine k_icmp_ne G X at_139 (pc' := 153) rfl (by decide) (pc'' := 142) rfl (fun c139 => (absurd c139 (by decide))) (fun c139 => ?_)
  refine k_aload G X at_142 (pc' := 144) rfl rfl rfl ?_
  refine k_ldcH G X (n := 4) (vs := ([97] : List Int32)) (z := 1) (w82 hw) (strAtoms hw) (by decide) ⟨by decide, by decide⟩ (by decide) at_144 (pc' := 146) rfl (by decide) (by decide) (by decide) (by decide) (fun T h144 sa sad k144 E144 Xs Fc Fv Fa hne144 X => ?_)
  replace O := O.ext E144
  replace S_CS := S_CS.ext E144
  replace S_FM := S_FM.ext E144
  replace S_FI := S_FI.ext E144
  replace AO := AO.ext E144
  replace AT := AT.ext E144
  replace S_O := S_O.ext E144
  replace S_T := S_T.ext E144
  replace EJ := EJ.ext E144
  replace JT := JT.ext E144
  replace E := E.ext E144
  replace BL := BL.ext E144
  replace YA := YA.ext E144
  have SA1 : Str Z h144 sa sad k144 1 (fun i => ([97] : List Int32).getD i 0) := ⟨Xs, Fc, Fv, Fa⟩
  have X_sa := Xs
  have ne_u45_sa := (hne144 u45 (List.mem_of_getElem? (i := 0) rfl)).1
  have ne_u45_sad := (hne144 u45 (List.mem_of_getElem? (i := 0) rfl)).2
  have ne_o_sa := (hne144 o (List.mem_of_getElem? (i := 1) rfl)).1
  have ne_o_sad := (hne144 o (List.mem_of_getElem? (i := 1) rfl)).2
  have ne_b_sa := (hne144 b (List.mem_of_getElem? (i := 2) rfl)).1
  have ne_b_sad := (hne144 b (List.mem_of_getElem? (i := 2) rfl)).2
  have ne_b0_sa := (hne144 b0 (List.mem_of_getElem? (i := 3) rfl)).1
  have ne_b0_sad := (hne144 b0 (List.mem_of_getElem? (i := 3) rfl)).2
  refine k_anull G X at_146 (pc' := 147) rfl ?_
  refine k_castNull G X at_147 (pc' := 150) rfl ?_
  refine k_callV G X (argsL := [(.ref sa), .null]) (rest := []) rfl EJ (w251 hw) (w252 hw) (nf_sel (w254 hw)) (w254 hw) (w253 hw) (w2 hw) (w255 hw) (by decide) (mn hw b0 o u45 ku45 cu45 ([123] : List Int32) cs fm 0 123 sa sad k144 (fun i => ([97] : List Int32).getD i 0) fi h144 n0 _ EJ JT ⟨ge_o, (List.mem_of_getElem? (i := 1) rfl)⟩ ⟨ge_u45, (List.mem_of_getElem? (i := 0) rfl)⟩ O BL S_CS hcs S_FM hfm rfl rfl (by decide) (by decide) (by decide) SA1 rfl (Ne.symm ne_o_sa) (Ne.symm ne_o_sad) (Ne.symm ne_u45_sa) (Ne.symm ne_u45_sad) S_FI hfi (by decide)) at_150 pd42 rfl (pc' := 153) rfl rfl (wd := 0) rfl (by decide) (by decide) (by decide) (by decide) (fun T h150 v sf150 X q => ?_)
  obtain ⟨rfl, K150, u150, ku150, cu150, BLn, hu150, ge_u150, mu150⟩ := q
  replace X := W.only X mu150
  have ne_u150_o : u150 ≠ o := BLn.ne
  have ne_dO_u150 : dO ≠ u150 := ne_new hu150 ne_dO_u45 AO.lt
  have ne_dT_u150 : dT ≠ u150 := ne_new hu150 ne_dT_u45 AT.lt
  have ne_b0_u150 : b0 ≠ u150 := ne_new hu150 ne_b0_u45 EJ.lt
  have ne_sa_u150 : sa ≠ u150 := ne_new hu150 (Ne.symm ne_u45_sa) X_sa.lt
  have ne_sad_u150 : sad ≠ u150 := ne_new hu150 (Ne.symm ne_u45_sad) SA1.lt'
  replace S_CS := Sta_keepL S_CS K150 (allS (Pln_exa E) (allS (Pln_exa YA) (all0)))
  replace S_FM := Sta_keepL S_FM K150 (allS (Pln_exa E) (allS (Pln_exa YA) (all0)))
  replace S_FI := Sta_keepL S_FI K150 (allS (Pln_exa E) (allS (Pln_exa YA) (all0)))
  replace S_O := Sta_keepL S_O K150 (allS (Pln_exa E) (allS (Pln_exa YA) (all0)))
  replace S_T := Sta_keepL S_T K150 (allS (Pln_exa E) (allS (Pln_exa YA) (all0)))
  replace O := O.keep K150 (allS ge_o (allS ge_u45 (all0)))
  replace AO := AO.keep K150 (nin2 ne_dO_o ne_dO_u45)
  replace AT := AT.keep K150 (nin2 ne_dT_o ne_dT_u45)
  replace EJ := EJ.keep K150
  replace JT := JT.keep K150 (nin2 ne_b0_o ne_b0_u45)
  replace E := E.keep K150
  replace YA := YA.keep K150
  replace X_sa := X_sa.keep K150
  replace SA1 := SA1.keep K150 (nin2 (Ne.symm ne_o_sa) (Ne.symm ne_u45_sa)) (nin2 (Ne.symm ne_o_sad) (Ne.symm ne_u45_sad))
  have BL : Bld Z _ o u150 ku150 cu150 ([123, 34, 97, 34, 58, 110, 117, 108, 108] : List Int32) := BLn
  have YA := BL.2.1
  show Go Γ n0 _ T (mkF Γ.m 153 #[.val (.long p0), .second, .val (.int p1), .val (.long p2), .second, .val (.ref b0), .val (.int (7 : Int32)), .val (.int fl), .unset, .unset, .unset] [])
  refine k_aload G X at_153 (pc' := 155) rfl rfl rfl ?_
  refine k_callV G X (argsL := []) (rest := []) rfl EJ (w206 hw) (w207 hw) (nf_sel (w209 hw)) (w209 hw) (w208 hw) (w2 hw) (w210 hw) (by decide) (jtext hw b0 o u150 ku150 cu150 ([123, 34, 97, 34, 58, 110, 117, 108, 108] : List Int32) cs h150 n0 _ EJ JT ⟨ge_o, (List.mem_of_getElem? (i := 2) rfl)⟩ ⟨ge_u150, (List.mem_of_getElem? (i := 0) rfl)⟩ O BL S_CS hcs (by decide)) at_155 pd36 rfl (pc' := 158) rfl rfl (wd := 0) rfl (by decide) (by decide) (by decide) (by decide) (fun T h155 v sf155 X q => ?_)
  obtain ⟨s155, r155, k155, rfl, sz_s155, sz_r155, K155, T155, ms155⟩ := q
  replace X := W.only X ms155
  have ne_dO_s155 : dO ≠ s155 := Nat.ne_of_lt (Nat.lt_of_lt_of_le AO.lt sz_s155)
  have ne_dT_s155 : dT ≠ s155 := Nat.ne_of_lt (Nat.lt_of_lt_of_le AT.lt sz_s155)
  have ne_b0_s155 : b0 ≠ s155 := Nat.ne_of_lt (Nat.lt_of_lt_of_le EJ.lt sz_s155)
  have ne_o_s155 : o ≠ s155 := Nat.ne_of_lt (Nat.lt_of_lt_of_le E.lt sz_s155)
  have ne_sa_s155 : sa ≠ s155 := Nat.ne_of_lt (Nat.lt_of_lt_of_le X_sa.lt sz_s155)
  have ne_sad_s155 : sad ≠ s155 := Nat.ne_of_lt (Nat.lt_of_lt_of_le SA1.lt' sz_s155)
  have ne_u150_s155 : u150 ≠ s155 := Nat.ne_of_lt (Nat.lt_of_lt_of_le BL.lt' sz_s155)
  have ne_dO_r155 : dO ≠ r155 := Nat.ne_of_lt (Nat.lt_of_lt_of_le AO.lt sz_r155)
  have ne_dT_r155 : dT ≠ r155 := Nat.ne_of_lt (Nat.lt_of_lt_of_le AT.lt sz_r155)
  have ne_b0_r155 : b0 ≠ r155 := Nat.ne_of_lt (Nat.lt_of_lt_of_le EJ.lt sz_r155)
  have ne_o_r155 : o ≠ r155 := Nat.ne_of_lt (Nat.lt_of_lt_of_le E.lt sz_r155)
  have ne_sa_r155 : sa ≠ r155 := Nat.ne_of_lt (Nat.lt_of_lt_of_le X_sa.lt sz_r155)
  have ne_sad_r155 : sad ≠ r155 := Nat.ne_of_lt (Nat.lt_of_lt_of_le SA1.lt' sz_r155)
  have ne_u150_r155 : u150 ≠ r155 := Nat.ne_of_lt (Nat.lt_of_lt_of_le BL.lt' sz_r155)
  replace S_CS := Jvm.OwnK.Sta_keep S_CS K155
  replace S_FM := Jvm.OwnK.Sta_keep S_FM K155
  replace S_FI := Jvm.OwnK.Sta_keep S_FI K155
  replace S_O := Jvm.OwnK.Sta_keep S_O K155
  replace S_T := Jvm.OwnK.Sta_keep S_T K155
  replace O := O.keep K155 (all0)
  replace AO := AO.keep K155 nin0
  replace AT := AT.keep K155 nin0
  replace EJ := EJ.keep K155
  replace JT := JT.keep K155 nin0
  replace E := E.keep K155
  replace X_sa := X_sa.keep K155
  replace SA1 := SA1.keep K155 nin0 nin0
  replace BL := BL.keep K155 nin0 nin0
  replace YA := YA.keep K155
  have T155 : Str Z _ s155 r155 k155 9 (fun i => ([123, 34, 97, 34, 58, 110, 117, 108, 108] : List Int32).getD i 0) := T155
  have X_s155 := T155.1
  show Go Γ n0 _ T (mkF Γ.m 158 #[.val (.long p0), .second, .val (.int p1), .val (.long p2), .second, .val (.ref b0), .val (.int (7 : Int32)), .val (.int fl), .unset, .unset, .unset] [(.ref s155)])
  refine k_astore G X at_158 (pc' := 160) rfl rfl (l' := #[.val (.long p0), .second, .val (.int p1), .val (.long p2), .second, .val (.ref b0), .val (.int (7 : Int32)), .val (.int fl), .val (.ref s155), .unset, .unset]) rfl ?_
  refine k_aload G X at_160 (pc' := 162) rfl rfl rfl ?_
  refine k_callV G X (argsL := []) (rest := []) rfl EJ (w38 hw) (w39 hw) (nf_sel (w41 hw)) (w41 hw) (w40 hw) (w2 hw) (w42 hw) (by decide) (boC hw b0 o u150 ku150 cu150 ([123, 34, 97, 34, 58, 110, 117, 108, 108] : List Int32) cs fm 8 108 h155 n0 _ EJ JT ⟨ge_o, (List.mem_of_getElem? (i := 3) rfl)⟩ ⟨ge_u150, (List.mem_of_getElem? (i := 1) rfl)⟩ O BL S_CS hcs S_FM hfm rfl rfl (by decide) (by decide) (by decide) (by decide) (by decide)) at_162 pd31 rfl (pc' := 165) rfl rfl (wd := 0) rfl (by decide) (by decide) (by decide) (by decide) (fun T h162 v sf162 X q => ?_)
  obtain ⟨rfl, K162, u162, ku162, cu162, BLn, hu162, ge_u162, mu162⟩ := q
  replace X := W.only X mu162
  have ne_u162_o : u162 ≠ o := BLn.ne
  have ne_dO_u162 : dO ≠ u162 := ne_new hu162 ne_dO_u150 AO.lt
  have ne_dT_u162 : dT ≠ u162 := ne_new hu162 ne_dT_u150 AT.lt
  have ne_b0_u162 : b0 ≠ u162 := ne_new hu162 ne_b0_u150 EJ.lt
  have ne_sa_u162 : sa ≠ u162 := ne_new hu162 ne_sa_u150 X_sa.lt
  have ne_sad_u162 : sad ≠ u162 := ne_new hu162 ne_sad_u150 SA1.lt'
  have ne_s155_u162 : s155 ≠ u162 := ne_new hu162 (Ne.symm ne_u150_s155) T155.lt
  have ne_r155_u162 : r155 ≠ u162 := ne_new hu162 (Ne.symm ne_u150_r155) T155.lt'
  replace S_CS := Sta_keepL S_CS K162 (allS (Pln_exa E) (allS (Pln_exa YA) (all0)))
  replace S_FM := Sta_keepL S_FM K162 (allS (Pln_exa E) (allS (Pln_exa YA) (all0)))
  replace S_FI := Sta_keepL S_FI K162 (allS (Pln_exa E) (allS (Pln_exa YA) (all0)))
  replace S_O := Sta_keepL S_O K162 (allS (Pln_exa E) (allS (Pln_exa YA) (all0)))
  replace S_T := Sta_keepL S_T K162 (allS (Pln_exa E) (allS (Pln_exa YA) (all0)))
  replace O := O.keep K162 (allS ge_o (allS ge_u150 (all0)))
  replace AO := AO.keep K162 (nin2 ne_dO_o ne_dO_u150)
  replace AT := AT.keep K162 (nin2 ne_dT_o ne_dT_u150)
  replace EJ := EJ.keep K162
  replace JT := JT.keep K162 (nin2 ne_b0_o ne_b0_u150)
  replace E := E.keep K162
  replace X_sa := X_sa.keep K162
  replace SA1 := SA1.keep K162 (nin2 (Ne.symm ne_o_sa) ne_sa_u150) (nin2 (Ne.symm ne_o_sad) ne_sad_u150)
  replace YA := YA.keep K162
  replace T155 := T155.keep K162 (nin2 (Ne.symm ne_o_s155) (Ne.symm ne_u150_s155)) (nin2 (Ne.symm ne_o_r155) (Ne.symm ne_u150_r155))
  replace X_s155 := X_s155.keep K162
  have BL : Bld Z _ o u162 ku162 cu162 ([123, 34, 97, 34, 58, 110, 117, 108, 108, 44, 123] : List Int32) := BLn
  have YA := BL.2.1
  show Go Γ n0 _ T (mkF Γ.m 165 #[.val (.long p0), .second, .val (.int p1), .val (.long p2), .second, .val (.ref b0), .val (.int (7 : Int32)), .val (.int fl), .val (.ref s155), .unset, .unset] [])
  refine k_aload G X at_165 (pc' := 167) rfl rfl rfl ?_
  refine k_callV G X (argsL := []) (rest := []) rfl EJ (w206 hw) (w207 hw) (nf_sel (w209 hw)) (w209 hw) (w208 hw) (w2 hw) (w210 hw) (by decide) (jtext hw b0 o u162 ku162 cu162 ([123, 34, 97, 34, 58, 110, 117, 108, 108, 44, 123] : List Int32) cs h162 n0 _ EJ JT ⟨ge_o, (List.mem_of_getElem? (i := 4) rfl)⟩ ⟨ge_u162, (List.mem_of_getElem? (i := 0) rfl)⟩ O BL S_CS hcs (by decide)) at_167 pd36 rfl (pc' := 170) rfl rfl (wd := 0) rfl (by decide) (by decide) (by decide) (by decide) (fun T h167 v sf167 X q => ?_)
  obtain ⟨s167, r167, k167, rfl, sz_s167, sz_r167, K167, T167, ms167⟩ := q
  replace X := W.only X ms167
  have ne_dO_s167 : dO ≠ s167 := Nat.ne_of_lt (Nat.lt_of_lt_of_le AO.lt sz_s167)
  have ne_dT_s167 : dT ≠ s167 := Nat.ne_of_lt (Nat.lt_of_lt_of_le AT.lt sz_s167)
  have ne_b0_s167 : b0 ≠ s167 := Nat.ne_of_lt (Nat.lt_of_lt_of_le EJ.lt sz_s167)
  have ne_o_s167 : o ≠ s167 := Nat.ne_of_lt (Nat.lt_of_lt_of_le E.lt sz_s167)
  have ne_sa_s167 : sa ≠ s167 := Nat.ne_of_lt (Nat.lt_of_lt_of_le X_sa.lt sz_s167)
  have ne_sad_s167 : sad ≠ s167 := Nat.ne_of_lt (Nat.lt_of_lt_of_le SA1.lt' sz_s167)
  have ne_s155_s167 : s155 ≠ s167 := Nat.ne_of_lt (Nat.lt_of_lt_of_le T155.lt sz_s167)
  have ne_r155_s167 : r155 ≠ s167 := Nat.ne_of_lt (Nat.lt_of_lt_of_le T155.lt' sz_s167)
  have ne_u162_s167 : u162 ≠ s167 := Nat.ne_of_lt (Nat.lt_of_lt_of_le BL.lt' sz_s167)
  have ne_dO_r167 : dO ≠ r167 := Nat.ne_of_lt (Nat.lt_of_lt_of_le AO.lt sz_r167)
  have ne_dT_r167 : dT ≠ r167 := Nat.ne_of_lt (Nat.lt_of_lt_of_le AT.lt sz_r167)
  have ne_b0_r167 : b0 ≠ r167 := Nat.ne_of_lt (Nat.lt_of_lt_of_le EJ.lt sz_r167)
  have ne_o_r167 : o ≠ r167 := Nat.ne_of_lt (Nat.lt_of_lt_of_le E.lt sz_r167)
  have ne_sa_r167 : sa ≠ r167 := Nat.ne_of_lt (Nat.lt_of_lt_of_le X_sa.lt sz_r167)
  have ne_sad_r167 : sad ≠ r167 := Nat.ne_of_lt (Nat.lt_of_lt_of_le SA1.lt' sz_r167)
  have ne_s155_r167 : s155 ≠ r167 := Nat.ne_of_lt (Nat.lt_of_lt_of_le T155.lt sz_r167)
  have ne_r155_r167 : r155 ≠ r167 := Nat.ne_of_lt (Nat.lt_of_lt_of_le T155.lt' sz_r167)
  have ne_u162_r167 : u162 ≠ r167 := Nat.ne_of_lt (Nat.lt_of_lt_of_le BL.lt' sz_r167)
  replace S_CS := Jvm.OwnK.Sta_keep S_CS K167
  replace S_FM := Jvm.OwnK.Sta_keep S_FM K167
  replace S_FI := Jvm.OwnK.Sta_keep S_FI K167
  replace S_O := Jvm.OwnK.Sta_keep S_O K167
  replace S_T := Jvm.OwnK.Sta_keep S_T K167
  replace O := O.keep K167 (all0)
  replace AO := AO.keep K167 nin0
  replace AT := AT.keep K167 nin0
  replace EJ := EJ.keep K167
  replace JT := JT.keep K167 nin0
  replace E := E.keep K167
  replace X_sa := X_sa.keep K167
  replace SA1 := SA1.keep K167 nin0 nin0
  replace T155 := T155.keep K167 nin0 nin0
  replace X_s155 := X_s155.keep K167
  replace BL := BL.keep K167 nin0 nin0
  replace YA := YA.keep K167
  have T167 : Str Z _ s167 r167 k167 11 (fun i => ([123, 34, 97, 34, 58, 110, 117, 108, 108, 44, 123] : List Int32).getD i 0) := T167
  have X_s167 := T167.1
  show Go Γ n0 _ T (mkF Γ.m 170 #[.val (.long p0), .second, .val (.int p1), .val (.long p2), .second, .val (.ref b0), .val (.int (7 : Int32)), .val (.int fl), .val (.ref s155), .unset, .unset] [(.ref s167)])
  refine k_astore G X at_170 (pc' := 172) rfl rfl (l' := #[.val (.long p0), .second, .val (.int p1), .val (.long p2), .second, .val (.ref b0), .val (.int (7 : Int32)), .val (.int fl), .val (.ref s155), .val (.ref s167), .unset]) rfl ?_
  refine k_iload G X at_172 (pc' := 174) rfl rfl ?_
  refine k_if_ne G X at_174 (pc' := 185) rfl (by decide) (pc'' := 177) rfl (fun c174 => ?_) (fun c174 => (absurd c174 (by decide)))
  refine k_iload G X at_185 (pc' := 187) rfl rfl ?_
  refine k_iconst G X at_187 (pc' := 188) rfl (z := (1 : Int32)) (by decide) ?_
  refine k_icmp_ne G X at_188 (pc' := 199) rfl (by decide) (pc'' := 191) rfl (fun c188 => ?_) (fun c188 => (absurd c188 (by decide)))
  refine k_iload G X at_199 (pc' := 201) rfl rfl ?_
  refine k_iconst G X at_201 (pc' := 202) rfl (z := (2 : Int32)) (by decide) ?_
  refine k_icmp_ne G X at_202 (pc' := 213) rfl (by decide) (pc'' := 205) rfl (fun c202 => ?_) (fun c202 => (absurd c202 (by decide)))
  refine k_iload G X at_213 (pc' := 215) rfl rfl ?_
  refine k_iconst G X at_215 (pc' := 216) rfl (z := (3 : Int32)) (by decide) ?_
  refine k_icmp_ne G X at_216 (pc' := 227) rfl (by decide) (pc'' := 219) rfl (fun c216 => ?_) (fun c216 => (absurd c216 (by decide)))
  refine k_iload G X at_227 (pc' := 229) rfl rfl ?_
  refine k_iconst G X at_229 (pc' := 230) rfl (z := (4 : Int32)) (by decide) ?_
  refine k_icmp_ne G X at_230 (pc' := 241) rfl (by decide) (pc'' := 233) rfl (fun c230 => ?_) (fun c230 => (absurd c230 (by decide)))
  refine k_iload G X at_241 (pc' := 243) rfl rfl ?_
  refine k_iconst G X at_243 (pc' := 244) rfl (z := (5 : Int32)) (by decide) ?_
  refine k_icmp_ne G X at_244 (pc' := 268) rfl (by decide) (pc'' := 247) rfl (fun c244 => ?_) (fun c244 => (absurd c244 (by decide)))
  refine k_iload G X at_268 (pc' := 270) rfl rfl ?_
  refine k_bipush G X at_270 (pc' := 272) rfl (z := (7 : Int32)) (by decide) ?_
  refine k_icmp_ne G X at_272 (pc' := 283) rfl (by decide) (pc'' := 275) rfl (fun c272 => (absurd c272 (by decide))) (fun c272 => ?_)
  refine k_aload G X at_275 (pc' := 277) rfl rfl rfl ?_
  refine k_ldcH G X (n := 44) (vs := ([123, 34, 97, 34, 58, 110, 117, 108, 108, 44, 123] : List Int32)) (z := 11) (w284 hw) (strAtoms hw) (by decide) ⟨by decide, by decide⟩ (by decide) at_277 (pc' := 279) rfl (by decide) (by decide) (by decide) (by decide) (fun T h277 sk skd k277 E277 Xs Fc Fv Fa hne277 X => ?_)
  replace O := O.ext E277
  replace S_CS := S_CS.ext E277
  replace S_FM := S_FM.ext E277
  replace S_FI := S_FI.ext E277
  replace AO := AO.ext E277
  replace AT := AT.ext E277
  replace S_O := S_O.ext E277
  replace S_T := S_T.ext E277
  replace EJ := EJ.ext E277
  replace JT := JT.ext E277
  replace E := E.ext E277
  replace X_sa := X_sa.ext E277
  replace SA1 := SA1.ext E277
  replace T155 := T155.ext E277
  replace X_s155 := X_s155.ext E277
  replace BL := BL.ext E277
  replace YA := YA.ext E277
  replace T167 := T167.ext E277
  replace X_s167 := X_s167.ext E277
  have SK : Str Z h277 sk skd k277 11 (fun i => ([123, 34, 97, 34, 58, 110, 117, 108, 108, 44, 123] : List Int32).getD i 0) := ⟨Xs, Fc, Fv, Fa⟩
  have X_sk := Xs
  have ne_s167_sk := (hne277 s167 (List.mem_of_getElem? (i := 0) rfl)).1
  have ne_s167_skd := (hne277 s167 (List.mem_of_getElem? (i := 0) rfl)).2
  have ne_u162_sk := (hne277 u162 (List.mem_of_getElem? (i := 1) rfl)).1
  have ne_u162_skd := (hne277 u162 (List.mem_of_getElem? (i := 1) rfl)).2
  have ne_s155_sk := (hne277 s155 (List.mem_of_getElem? (i := 2) rfl)).1
  have ne_s155_skd := (hne277 s155 (List.mem_of_getElem? (i := 2) rfl)).2
  have ne_u150_sk := (hne277 u150 (List.mem_of_getElem? (i := 3) rfl)).1
  have ne_u150_skd := (hne277 u150 (List.mem_of_getElem? (i := 3) rfl)).2
  have ne_u45_sk := (hne277 u45 (List.mem_of_getElem? (i := 4) rfl)).1
  have ne_u45_skd := (hne277 u45 (List.mem_of_getElem? (i := 4) rfl)).2
  have ne_o_sk := (hne277 o (List.mem_of_getElem? (i := 5) rfl)).1
  have ne_o_skd := (hne277 o (List.mem_of_getElem? (i := 5) rfl)).2
  have ne_b_sk := (hne277 b (List.mem_of_getElem? (i := 6) rfl)).1
  have ne_b_skd := (hne277 b (List.mem_of_getElem? (i := 6) rfl)).2
  have ne_b0_sk := (hne277 b0 (List.mem_of_getElem? (i := 7) rfl)).1
  have ne_b0_skd := (hne277 b0 (List.mem_of_getElem? (i := 7) rfl)).2
  refine k_callV G X (argsL := [(.ref sk)]) (rest := []) rfl X_s167 (w242 hw) (w243 hw) (nf_sel (w245 hw)) (w245 hw) (w244 hw) (w29 hw) (w246 hw) (by decide) (str_eq hw s167 sk r167 skd k167 k277 11 11 cs _ _ h277 n0 _ T167 SK ne_s167_sk S_CS hcs) at_279 pd39 rfl (pc' := 282) rfl rfl (wd := 0) rfl (by decide) (by decide) (by decide) (by decide) (fun T h279 v sf279 X q => ?_)
  replace X := W.drop X
  obtain ⟨r, rfl, hr, hi, e279⟩ := q
  replace X := X.eq e279
  obtain rfl : (1 : Int32) = r := (hi.mpr ⟨rfl, fun i _ => rfl⟩).symm
  show Go Γ n0 _ T (mkF Γ.m 282 #[.val (.long p0), .second, .val (.int p1), .val (.long p2), .second, .val (.ref b0), .val (.int (7 : Int32)), .val (.int fl), .val (.ref s155), .val (.ref s167), .unset] [(.int (1 : Int32))])
  refine k_retb G X at_282 (t := .boolean) rfl (by simp) rfl ?_ (by decide) (by decide)
  rfl
theorem pn_0 : plainFor (⟨"com/example/half_message_commit/halfmessagecommit/protocol/JsonWriterBeginObjectPinLaw", "law", "(JIJ)Z"⟩ : MethodName) = true := plainFor_of_name (by first | (simp [plainName, overriddenIn]; done) | decide +kernel)
set_option maxRecDepth 65536 in
set_option maxHeartbeats 40000000 in
theorem rm0 {Z : State} {a0 : Array Value} (hw : HW a0 Z) (p0 : Int64) (p1 cs : Int32) (p2 : Int64) (fm fi : Value) (dO dT : Addr) (kO kT : ClassId) (gO gT : Nat → Int32) (h0 : Heap) (n0 : Nat) (O : Old Z n0 h0) (S_CS : Sta Z h0 "java/lang/String" "COMPACT_STRINGS" "Z" (.int cs)) (hcs : cs ≠ 0) (S_FM : Sta Z h0 "jdk/internal/util/Preconditions" "SIOOBE_FORMATTER" "Ljava/util/function/BiFunction;" fm) (hfm : fm.isRef = true) (S_FI : Sta Z h0 "jdk/internal/util/Preconditions" "IOOBE_FORMATTER" "Ljava/util/function/BiFunction;" fi) (hfi : fi.isRef = true) (AO : Arf Z h0 dO kO .byte 100 (fun i => .int (gO i))) (AT : Arf Z h0 dT kT .byte 100 (fun i => .int (gT i))) (S_O : Sta Z h0 "java/lang/Integer" "DigitOnes" "[B" (.ref dO)) (S_T : Sta Z h0 "java/lang/Integer" "DigitTens" "[B" (.ref dT)) (hO : ∀ i, i < 100 → dig (gO i)) (hT : ∀ i, i < 100 → dig (gT i)) :
    MetW Z consts_1 [] x code maxLocals ret tables_1 room_1 #[(.long p0), (.int p1), (.long p2)] h0 n0 (fun v h sf => v = some (.int 1)) := by
  refine k_body (hEW hw) (f := (fun m => mkF m 0 #[.val (.long p0), .second, .val (.int p1), .val (.long p2), .second, .unset, .unset, .unset, .unset, .unset, .unset] [])) pn_0 (fun m => by first | (simp [entryFrame, mkF, argsToLocals, Value.category, maxLocals]; done) | rfl) ?_
  intro Γ T G X
  show Go Γ n0 _ T (mkF Γ.m 0 #[.val (.long p0), .second, .val (.int p1), .val (.long p2), .second, .unset, .unset, .unset, .unset, .unset, .unset] [])
  refine k_new G X (w0 hw) (w1 hw) (w2 hw) at_0 (pc' := 3) rfl (by decide) (by decide) (fun T hA0 b0 s_b0 E0 X_b0 D0 X => ?_)
  have ne_dO_b0 : dO ≠ b0 := Nat.ne_of_lt (Nat.lt_of_lt_of_eq AO.lt s_b0)
  have ne_dT_b0 : dT ≠ b0 := Nat.ne_of_lt (Nat.lt_of_lt_of_eq AT.lt s_b0)
  have ge_b0 : n0 ≤ b0 := Nat.le_trans (Jvm.OwnK.Old_le O) (Nat.le_of_eq s_b0)
  replace O := O.ext E0
  replace S_CS := S_CS.ext E0
  replace S_FM := S_FM.ext E0
  replace S_FI := S_FI.ext E0
  replace AO := AO.ext E0
  replace AT := AT.ext E0
  replace S_O := S_O.ext E0
  replace S_T := S_T.ext E0
  have F_b0_text : Fld Z hA0 b0 "com/example/half_message_commit/halfmessagecommit/protocol/JsonWriter" "text" "Ljava/lang/StringBuilder;" .null := D0 (Or.inr (w36 hw)) (ty := (.object "java/lang/StringBuilder")) (by decide)
  refine k_dup G X at_3 (pc' := 4) rfl rfl ?_
  refine k_lloadN G X at_4 (pc' := 5) rfl rfl ?_
  refine k_ldcL G X (w3 hw) at_5 (pc' := 8) rfl ?_
  refine k_land G X at_8 (pc' := 9) rfl rfl ?_
  have hm16 := c_maskL p0 65535 16 (by decide) (by decide)
  obtain ⟨x0, q_x0⟩ : ∃ z, (p0 &&& (65535 : Int64)) = z := ⟨_, rfl⟩
  rw [q_x0] at hm16 ⊢
  obtain ⟨nn, hx0⟩ : ∃ n : Nat, x0.toInt = n := ⟨x0.toInt.toNat, by omega⟩
  have hn0 : nn ≤ 65535 := by omega
  refine k_callI G X (argsL := [(.long x0)]) (rest := [(.ref b0)]) rfl rfl (w4 hw) (w5 hw) (w2 hw) (w6 hw) (by decide) (jw_i hw b0 x0 cs nn hA0 n0 _ ⟨ge_b0, (List.mem_of_getElem? (i := 0) rfl)⟩ O X_b0 F_b0_text S_CS hcs hx0 hn0) at_9 pd38 rfl (pc' := 12) rfl rfl (wd := 1) rfl (by decide) (by decide) (by decide) (by decide) (fun T h9 v sf9 X q => ?_)
  obtain ⟨rfl, K9, E', o, b, k, sz_o, sz_b, JT, BL, hmb⟩ := q
  replace X := W.only X hmb
  have ne_dO_o : dO ≠ o := Nat.ne_of_lt (Nat.lt_of_lt_of_le AO.lt sz_o)
  have ne_dT_o : dT ≠ o := Nat.ne_of_lt (Nat.lt_of_lt_of_le AT.lt sz_o)
  have ne_b0_o : b0 ≠ o := Nat.ne_of_lt (Nat.lt_of_lt_of_le X_b0.lt sz_o)
  have ne_dO_b : dO ≠ b := Nat.ne_of_lt (Nat.lt_of_lt_of_le AO.lt sz_b)
  have ne_dT_b : dT ≠ b := Nat.ne_of_lt (Nat.lt_of_lt_of_le AT.lt sz_b)
  have ne_b0_b : b0 ≠ b := Nat.ne_of_lt (Nat.lt_of_lt_of_le X_b0.lt sz_b)
  have ge_o : n0 ≤ o := Nat.le_trans (Old_le O) sz_o
  have ge_b : n0 ≤ b := Nat.le_trans (Old_le O) sz_b
  replace S_CS := Sta_keepL S_CS K9 (allS (Pln_exa X_b0) (all0))
  replace S_FM := Sta_keepL S_FM K9 (allS (Pln_exa X_b0) (all0))
  replace S_FI := Sta_keepL S_FI K9 (allS (Pln_exa X_b0) (all0))
  replace S_O := Sta_keepL S_O K9 (allS (Pln_exa X_b0) (all0))
  replace S_T := Sta_keepL S_T K9 (allS (Pln_exa X_b0) (all0))
  replace O := O.keep K9 (allS ge_b0 (all0))
  replace AO := AO.keep K9 (nin1 ne_dO_b0)
  replace AT := AT.keep K9 (nin1 ne_dT_b0)
  replace X_b0 := X_b0.keep K9
  have E := BL.1
  have YA := BL.2.1
  have ne_b_o : b ≠ o := BL.ne
  have EJ := X_b0
  show Go Γ n0 _ T (mkF Γ.m 12 #[.val (.long p0), .second, .val (.int p1), .val (.long p2), .second, .unset, .unset, .unset, .unset, .unset, .unset] [(.ref b0)])
  refine k_astore G X at_12 (pc' := 14) rfl rfl (l' := #[.val (.long p0), .second, .val (.int p1), .val (.long p2), .second, .val (.ref b0), .unset, .unset, .unset, .unset, .unset]) rfl ?_
  refine k_iloadN G X at_14 (pc' := 15) rfl rfl ?_
  refine k_ldcI G X (w37 hw) at_15 (pc' := 17) rfl ?_
  refine k_iand G X at_17 (pc' := 18) rfl rfl ?_
  refine k_bipush G X at_18 (pc' := 20) rfl (z := (8 : Int32)) (by decide) ?_
  refine k_irem G X at_20 (pc' := 21) rfl (by decide) rfl ?_
  have m2 := rem_rng (p1 &&& (2147483647 : Int32)) (y := 8) 8 rfl (by decide) (and_rng p1 2147483647 rfl (by decide)).1
  obtain ⟨mm, q_mm⟩ : ∃ z, ((p1 &&& (2147483647 : Int32)) % (8 : Int32)) = z := ⟨_, rfl⟩
  rw [q_mm] at m2 ⊢
  have hmm0 : 0 ≤ mm.toInt := by omega
  have hmm7 : mm.toInt ≤ 7 := by omega
  refine k_istore G X at_21 (pc' := 23) rfl (l' := #[.val (.long p0), .second, .val (.int p1), .val (.long p2), .second, .val (.ref b0), .val (.int mm), .unset, .unset, .unset, .unset]) rfl ?_
  have J36 : ∀ (T : State) (fl : Int32), (fl = 0 ∨ fl = 1) → W Γ n0 T h9 3 65540 (b :: b0 :: []) → Go Γ n0 (fun v h sf => v = some (.int 1)) T (mkF Γ.m 36 #[.val (.long p0), .second, .val (.int p1), .val (.long p2), .second, .val (.ref b0), .val (.int mm), .unset, .unset, .unset, .unset] [(.int fl)]) := by
    intro T fl hfl X
    refine k_istore G X at_36 (pc' := 38) rfl (l' := #[.val (.long p0), .second, .val (.int p1), .val (.long p2), .second, .val (.ref b0), .val (.int mm), .val (.int fl), .unset, .unset, .unset]) rfl ?_
    rcases m8 hmm0 hmm7 with rfl | rfl | rfl | rfl | rfl | rfl | rfl | rfl
    · exact md0 hw p0 p1 cs p2 fm fi dO dT kO kT gO gT b0 o b k nn fl _ _ n0 O S_CS hcs S_FM hfm S_FI hfi AO AT S_O S_T hO hT EJ JT BL ge_b0 ge_o ge_b ne_b_o ne_b0_b ne_b0_o ne_dO_b ne_dO_b0 ne_dO_o ne_dT_b ne_dT_b0 ne_dT_o hfl Γ T G X
    · exact md1 hw p0 p1 cs p2 fm fi dO dT kO kT gO gT b0 o b k nn fl _ _ n0 O S_CS hcs S_FM hfm S_FI hfi AO AT S_O S_T hO hT EJ JT BL ge_b0 ge_o ge_b ne_b_o ne_b0_b ne_b0_o ne_dO_b ne_dO_b0 ne_dO_o ne_dT_b ne_dT_b0 ne_dT_o hfl Γ T G X
    · exact md2 hw p0 p1 cs p2 fm fi dO dT kO kT gO gT b0 o b k nn fl _ _ n0 O S_CS hcs S_FM hfm S_FI hfi AO AT S_O S_T hO hT EJ JT BL ge_b0 ge_o ge_b ne_b_o ne_b0_b ne_b0_o ne_dO_b ne_dO_b0 ne_dO_o ne_dT_b ne_dT_b0 ne_dT_o hfl Γ T G X
    · exact md3 hw p0 p1 cs p2 fm fi dO dT kO kT gO gT b0 o b k nn fl _ _ n0 O S_CS hcs S_FM hfm S_FI hfi AO AT S_O S_T hO hT EJ JT BL ge_b0 ge_o ge_b ne_b_o ne_b0_b ne_b0_o ne_dO_b ne_dO_b0 ne_dO_o ne_dT_b ne_dT_b0 ne_dT_o hfl Γ T G X
    · exact md4 hw p0 p1 cs p2 fm fi dO dT kO kT gO gT b0 o b k nn fl _ _ n0 O S_CS hcs S_FM hfm S_FI hfi AO AT S_O S_T hO hT EJ JT BL ge_b0 ge_o ge_b ne_b_o ne_b0_b ne_b0_o ne_dO_b ne_dO_b0 ne_dO_o ne_dT_b ne_dT_b0 ne_dT_o hfl Γ T G X
    · exact md5 hw p0 p1 cs p2 fm fi dO dT kO kT gO gT b0 o b k nn fl _ _ n0 O S_CS hcs S_FM hfm S_FI hfi AO AT S_O S_T hO hT EJ JT BL ge_b0 ge_o ge_b ne_b_o ne_b0_b ne_b0_o ne_dO_b ne_dO_b0 ne_dO_o ne_dT_b ne_dT_b0 ne_dT_o hfl Γ T G X
    · exact md6 hw p0 p1 cs p2 fm fi dO dT kO kT gO gT b0 o b k nn fl _ _ n0 O S_CS hcs S_FM hfm S_FI hfi AO AT S_O S_T hO hT EJ JT BL ge_b0 ge_o ge_b ne_b_o ne_b0_b ne_b0_o ne_dO_b ne_dO_b0 ne_dO_o ne_dT_b ne_dT_b0 ne_dT_o hfl Γ T G X
    · exact md7 hw p0 p1 cs p2 fm fi dO dT kO kT gO gT b0 o b k nn fl _ _ n0 O S_CS hcs S_FM hfm S_FI hfi AO AT S_O S_T hO hT EJ JT BL ge_b0 ge_o ge_b ne_b_o ne_b0_b ne_b0_o ne_dO_b ne_dO_b0 ne_dO_o ne_dT_b ne_dT_b0 ne_dT_o hfl Γ T G X
  refine k_lloadN G X at_23 (pc' := 24) rfl rfl ?_
  refine k_lconst G X at_24 (pc' := 25) rfl (z := (1 : Int64)) (by decide) ?_
  refine k_land G X at_25 (pc' := 26) rfl rfl ?_
  refine k_lconst G X at_26 (pc' := 27) rfl (z := (0 : Int64)) (by decide) ?_
  refine k_lcmp G X at_27 (pc' := 28) rfl rfl ?_
  refine k_if_eq G X at_28 (pc' := 35) rfl (by decide) (pc'' := 31) rfl (fun c28 => ?_) (fun c28 => ?_)
  · refine k_iconst G X at_35 (pc' := 36) rfl (z := (0 : Int32)) (by decide) ?_
    exact J36 T (0 : Int32) (Or.inl rfl) X
  · refine k_iconst G X at_31 (pc' := 32) rfl (z := (1 : Int32)) (by decide) ?_
    refine k_goto G X at_32 (by decide) (pc' := 36) rfl ?_
    exact J36 T (1 : Int32) (Or.inr rfl) X

theorem num_ones : ∀ r, r < 100 → (48 : Int32) + Int32.ofNat r % 10 = Int32.ofNat (48 + r % 10) := by decide +kernel
theorem num_tens : ∀ r, r < 100 → (48 : Int32) + Int32.ofNat r / 10 = Int32.ofNat (48 + r / 10) := by decide +kernel
theorem own_ones_num : ∀ i, i < 100 → dig (Int32.ofNat (48 + i % 10)) := by unfold dig; decide +kernel
theorem own_tens_num : ∀ i, i < 100 → dig (Int32.ofNat (48 + i / 10)) := by unfold dig; decide +kernel

set_option maxRecDepth 65536 in
set_option maxHeartbeats 40000000 in
theorem comes_1 {Post : Tables → Env → Array Value → State → Outcome → State → Prop} (hpost : ∀ tb e args s v u, (limb_1_1.after args s (.returned v) u = true ∧ limb_1_2.after args s (.returned v) u = true ∧ True) → ReturnedEndW s (.returned v) u (Jvm.fieldLocs frame_1_writes args s ++ Jvm.arrayLocs frame_1_arrays args s ++ Jvm.staticLocs frame_1_statics s) 56 141504 → Post tb e args s (.returned v) u) :
    ArmFor flags0 classFile x code maxLocals ret World_1 tables_1 room_1 Calls_1 rest_1 Pre_1 Post := by
  intro l hfl _ _ p e ha hc hk s m args below hf hA hF happ hP
  obtain ⟨hcalls, hrest, hpre⟩ := hP
  obtain ⟨-, -, -, hnamed, -, -, -, hat⟩ := (Spec.applies_iff hf).mp happ
  obtain ⟨hg, hn⟩ := and_e (Cond.before_iff.mp (show (Jvm.Cond.and given_1 narrow_1).before args s = true from hpre))
  obtain ⟨hg0, hgr0⟩ := and_e hg
  obtain ⟨hg1, hgr1⟩ := and_e hgr0
  obtain ⟨hg2, hgr2⟩ := and_e hgr1
  obtain ⟨w0', w1', w2', rfl⟩ : ∃ w0' w1' w2' : Value, args = #[w0', w1', w2'] := by
    have hs : args.size = 3 := by simpa [Cond.value, given_1] using hg0
    obtain ⟨L⟩ := args
    match L, hs with
    | [w0', w1', w2'], _ => exact ⟨w0', w1', w2', rfl⟩
  have hw : HW _ s := fun d (hd : d ∈ tables_1) => atoms_spec (ws := Jvm.Cond.code x code maxLocals ret :: tables_1) hat d (List.mem_cons_of_mem _ hd)
  have hfit : Fit s := fun {y c} hc i hi => by
    obtain ⟨ha, rfl⟩ := Array.getElem?_eq_some_iff.mp hc
    have q := List.all_eq_true.mp ((Array.all_eq_true_iff_forall_mem.mp hF) _ (Array.getElem_mem ha)) i (List.mem_range.mpr hi)
    simpa [Array.getElem?_eq_getElem hi] using q
  obtain ⟨hsets, hown0⟩ := atoms_of _ (rest_1_c_eq ▸ (show rest_1_c.before _ s = true from hrest))
  have hr0 := Cond.before_iff.mp hown0
  obtain ⟨i0, ei0⟩ := isL_v hg1
  obtain rfl : w0' = (.long i0) := Option.some.inj ei0
  obtain ⟨i1, ei1⟩ := is_v hg2
  obtain rfl : w1' = (.int i1) := Option.some.inj ei1
  obtain ⟨i2, ei2⟩ := isL_v hgr2
  obtain rfl : w2' = (.long i2) := Option.some.inj ei2
  have hcw := (hsets _ (List.mem_of_getElem? (i := 2) rfl))
  obtain ⟨cs, S_CS, hcs⟩ := s_cs (hsets _ (List.mem_of_getElem? (i := 0) rfl)) (hsets _ (List.mem_of_getElem? (i := 1) rfl)) (hsets _ (List.mem_of_getElem? (i := 2) rfl))
  obtain ⟨fm, S_FM, hfm⟩ := s_isRef (hsets _ (List.mem_of_getElem? (i := 7) rfl)) (hsets _ (List.mem_of_getElem? (i := 8) rfl))
  obtain ⟨fi, S_FI, hfi⟩ := s_lays (t := .object "java/util/function/BiFunction") hfit (hsets _ (List.mem_of_getElem? (i := 5) rfl)) (w165 hw) (by decide +kernel) rfl
  obtain ⟨dO, kO, S_O, AO⟩ := s_dig (F := fun i => Int32.ofNat (48 + i % 10)) (hsets _ (List.mem_of_getElem? (i := 9) rfl)) (hsets _ (List.mem_of_getElem? (i := 10) rfl)) (hsets _ (List.mem_of_getElem? (i := 12) rfl)) (hsets _ (List.mem_of_getElem? (i := 13) rfl)) (hsets _ (List.mem_of_getElem? (i := 14) rfl)) (w30 hw) (fun i hi => by rw [← num_ones i hi]; rfl) own_ones_num
  obtain ⟨dT, kT, S_T, AT⟩ := s_dig (F := fun i => Int32.ofNat (48 + i / 10)) (hsets _ (List.mem_of_getElem? (i := 9) rfl)) (hsets _ (List.mem_of_getElem? (i := 15) rfl)) (hsets _ (List.mem_of_getElem? (i := 17) rfl)) (hsets _ (List.mem_of_getElem? (i := 18) rfl)) (hsets _ (List.mem_of_getElem? (i := 19) rfl)) (w30 hw) (fun i hi => by rw [← num_tens i hi]; rfl) own_tens_num
  obtain ⟨n, o, h1, h2, h3, _, L, rfl, ⟨⟨_, rfl, -⟩, N⟩, -, hq⟩ := rm0 hw i0 i1 cs i2 fm fi dO dT kO kT _ _ s.heap s.heap.size (Old.start s) S_CS hcs S_FM hfm S_FI hfi AO AT S_O S_T own_ones_num own_tens_num l p e ha hc hk s m _ below hf ((Spec.applies_iff_loose hf).mp happ).1 ⟨rfl, State.Warmed39.refl s, rfl, CHv.start (hEW hw).choose_spec (fun p hp => hcalls.1 p hp) hcw (hw _ (List.mem_of_getElem? (i := 30) rfl)) (hw _ (List.mem_of_getElem? (i := 83) rfl)), fun x hx => by cases hx⟩ trivial
  exact ⟨n, _, h1, h2, h3, hpost _ _ _ _ _ _ ⟨Cond.after_iff.mpr rfl, Cond.after_iff.mpr (eq_i res_at (Term.int_eval (1)) rfl), trivial⟩ ⟨hq.1, hq.2.1, hq.2.2.1, (hq.2.2.2.sift fun y hy => Or.inr (N y hy)).mono (by decide) (by decide)⟩⟩
theorem main_1_1 : Claimed_1_1 := comes_1 fun _ _ _ _ _ _ h hF => ⟨h.1, hF⟩
theorem main_1_2 : Claimed_1_2 := comes_1 fun _ _ _ _ _ _ h hF => ⟨h.2.1, hF⟩
end Jvm.Pilot.@@N@@
namespace Jvm.Pilot.@@N@@
open Jvm Jvm.ClassFile Sem Op Lib Jvm.Free Jvm.Stand Jvm.Pilot.@@N@@.Jvm.D
/-! MADE BY PROGRAM (witnessworld.py) out of the Statement's table words and the real class files: 26 classes; the members and pool entries that the words name. The judged class is class 1, her method 1. -/
namespace start1
open Jvm.ClassFile
def u (s : String) : CpInfo := .utf8 (stringToUtf16 s)
/-- a pool by its gaps: so many unusable entries, then the entry; so many at the end -/
def gap : Nat → List CpInfo → List CpInfo
  | 0, r => r
  | n + 1, r => .unusable :: gap n r
def poolList (es : List (Nat × CpInfo)) (last : Nat) : List CpInfo := es.foldr (fun e r => gap e.1 (e.2 :: r)) (gap last [])
def pool (es : List (Nat × CpInfo)) (last : Nat) : Array CpInfo := ⟨poolList es last⟩
def fileOf (pool : Array CpInfo) (this : Nat) (attrs : Array Attribute := #[]) (ms : Array MethodInfo := #[]) (fl : Nat := 33) (sup : Nat := 0) (ifs : Array Nat := #[]) (fds : Array FieldInfo := #[]) : ClassFile where
  minorVersion := 0
  majorVersion := 65
  constantPool := pool
  accessFlags := fl
  thisClass := this
  superClass := sup
  interfaces := ifs
  fields := fds
  methods := ms
  attributes := attrs
def plain (name : String) (sup : Option ClassId) : Class where
  name := name
  kind := .ordinary
  loader := none
  accessFlags := 33
  super := sup
  interfaces := #[]
  cf := none
  fields := #[]
  methods := #[]
  instanceTypes := #[]
  staticTypes := #[]
  resolved := #[]
  callSites := []
  init := .initialized
  statics := none
  mirror := none

def pool0 : Array CpInfo := pool [(5, u "<init>"), (0, u "()V"), (1, .class_ 10), (1, u "java/lang/Object"), (85, u "clone"), (0, u "()Ljava/lang/Object;")] 26

def k0c0 : Code := { maxStack := 0, maxLocals := 1, code := object_method_1_code, exceptionTable := #[], attributes := #[] }
def k0m0 : Method := { name := "<init>", desc := "()V", sig := { parameters := [], returnType := none }, accessFlags := 1, code := some k0c0 }
def k0m1 : Method := { name := "clone", desc := "()Ljava/lang/Object;", sig := { parameters := [], returnType := some (.object "java/lang/Object") }, accessFlags := 260, code := none }
/-- java/lang/Object -/
def k0 : Class := { plain "java/lang/Object" none with
  accessFlags := 33
  interfaces := #[]
  cf := some (fileOf pool0 8 #[] #[{ accessFlags := 1, nameIndex := 5, descriptorIndex := 6, attributes := #[] }, { accessFlags := 260, nameIndex := 96, descriptorIndex := 97, attributes := #[] }] 33 0 #[] #[])
  fields := #[]
  methods := #[k0m0, k0m1]
  instanceTypes := #[]
  staticTypes := #[]
  resolved := Array.replicate 124 none
  statics := none }

def pool1 : Array CpInfo := pool [(2, .class_ 4), (1, u "java/lang/Object"), (0, u "<init>"), (0, u "()V"), (0, .class_ 8), (0, u "com/example/half_message_commit/halfmessagecommit/protocol/JsonWriter"), (0, .long 65535), (1, .methodref 7 12), (0, .nameAndType 5 13), (0, u "(J)V"), (0, .integer 2147483647), (0, .methodref 7 16), (0, .nameAndType 17 6), (0, u "beginObject"), (0, .string 19), (0, u "a"), (0, .methodref 7 21), (0, .nameAndType 22 23), (0, u "beginArray"), (0, u "(Ljava/lang/String;)V"), (0, .methodref 7 25), (0, .nameAndType 26 6), (0, u "endObject"), (0, .methodref 7 28), (0, .nameAndType 29 6), (0, u "endArray"), (0, .methodref 7 31), (0, .nameAndType 32 33), (0, u "member"), (0, u "(Ljava/lang/String;Z)V"), (0, .methodref 7 35), (0, .nameAndType 32 36), (0, u "(Ljava/lang/String;J)V"), (0, .class_ 38), (0, u "java/lang/String"), (0, .methodref 7 40), (0, .nameAndType 32 41), (0, u "(Ljava/lang/String;Ljava/lang/String;)V"), (0, .methodref 7 43), (0, .nameAndType 44 45), (0, u "text"), (0, u "()Ljava/lang/String;"), (0, .string 47), (0, u "{"), (0, .methodref 37 49), (0, .nameAndType 50 51), (0, u "equals"), (0, u "(Ljava/lang/Object;)Z"), (0, .string 53), (0, u "{{"), (0, .string 55), (0, u "{\"a\":[{"), (0, .string 57), (0, u "{},{"), (0, .string 59), (0, u "{\"a\":[],{"), (0, .string 61), (0, u "{\"a\":true,{"), (0, .string 63), (0, u "{\"a\":false,{"), (0, .string 65), (0, u "{\"a\":null,{"), (0, .methodref 37 67), (0, .nameAndType 68 69), (0, u "length"), (0, u "()I"), (0, .methodref 37 71), (0, .nameAndType 72 73), (0, u "charAt"), (0, u "(I)C"), (0, .class_ 75), (0, u "com/example/half_message_commit/halfmessagecommit/protocol/JsonWriterBeginObjectPinLaw"), (2, u "law"), (0, u "(JIJ)Z")] 3

def k1m0 : Method := { name := "<init>", desc := "()V", sig := { parameters := [], returnType := none }, accessFlags := 1, code := none }
def k1c1 : Code := { maxStack := 6, maxLocals := 11, code := code, exceptionTable := #[], attributes := #[] }
def k1m1 : Method := { name := "law", desc := "(JIJ)Z", sig := { parameters := [.long, .int, .long], returnType := some .boolean }, accessFlags := 9, code := some k1c1 }
/-- com/example/half_message_commit/halfmessagecommit/protocol/JsonWriterBeginObjectPinLaw -/
def k1 : Class := { plain "com/example/half_message_commit/halfmessagecommit/protocol/JsonWriterBeginObjectPinLaw" (some 0) with
  accessFlags := 49
  interfaces := #[]
  cf := some (fileOf pool1 74 #[] #[{ accessFlags := 1, nameIndex := 5, descriptorIndex := 6, attributes := #[] }, { accessFlags := 9, nameIndex := 78, descriptorIndex := 79, attributes := #[] }] 49 2 #[] #[])
  fields := #[]
  methods := #[k1m0, k1m1]
  instanceTypes := #[]
  staticTypes := #[]
  resolved := Array.replicate 83 none
  statics := none }

def pool2 : Array CpInfo := pool [(3, .class_ 4), (0, u "com/example/half_message_commit/halfmessagecommit/protocol/JsonWriter"), (4, u "<init>"), (0, u "(J)V"), (0, .methodref 12 13), (0, .class_ 14), (0, .nameAndType 9 15), (0, u "java/lang/Object"), (0, u "()V"), (0, .class_ 17), (0, u "java/lang/StringBuilder"), (0, .long 2147483639), (1, .methodref 21 22), (0, .class_ 23), (0, .nameAndType 24 25), (0, u "java/lang/Math"), (0, u "min"), (0, u "(JJ)J"), (0, .methodref 16 27), (0, .nameAndType 9 28), (0, u "(I)V"), (0, .fieldref 3 30), (0, .nameAndType 31 32), (0, u "text"), (0, u "Ljava/lang/StringBuilder;"), (0, .methodref 3 34), (0, .nameAndType 35 15), (0, u "separate"), (0, .methodref 16 37), (0, .nameAndType 38 39), (0, u "append"), (0, u "(C)Ljava/lang/StringBuilder;"), (0, .methodref 3 41), (0, .nameAndType 42 43), (0, u "name"), (0, u "(Ljava/lang/String;)V"), (0, .string 45), (0, u "null"), (0, .methodref 16 47), (0, .nameAndType 38 48), (0, u "(Ljava/lang/String;)Ljava/lang/StringBuilder;"), (0, .methodref 3 50), (0, .nameAndType 51 43), (0, u "string"), (0, .methodref 16 53), (0, .nameAndType 38 54), (0, u "(J)Ljava/lang/StringBuilder;"), (0, .methodref 16 56), (0, .nameAndType 38 57), (0, u "(Z)Ljava/lang/StringBuilder;"), (0, .methodref 16 59), (0, .nameAndType 60 61), (0, u "toString"), (0, u "()Ljava/lang/String;"), (0, .methodref 16 63), (0, .nameAndType 64 65), (0, u "length"), (0, u "()I"), (0, .methodref 16 67), (0, .nameAndType 68 69), (0, u "charAt"), (0, u "(I)C"), (0, .methodref 71 63), (0, .class_ 72), (0, u "java/lang/String"), (0, .methodref 71 67), (0, .methodref 16 75), (0, .nameAndType 38 76), (0, u "(Ljava/lang/CharSequence;II)Ljava/lang/StringBuilder;"), (8, u "HEX"), (0, u "Ljava/util/HexFormat;"), (10, u "SMALL_TEXT"), (0, u "I"), (2, u "LARGEST_CAPACITY"), (3, u "beginObject"), (0, u "endObject"), (0, u "beginArray"), (0, u "endArray"), (0, u "member"), (0, u "(Ljava/lang/String;Ljava/lang/String;)V"), (1, u "(Ljava/lang/String;J)V"), (0, u "(Ljava/lang/String;Z)V")] 3

def k2m0 : Method := { name := "<init>", desc := "()V", sig := { parameters := [], returnType := none }, accessFlags := 0, code := none }
def k2c1 : Code := { maxStack := 7, maxLocals := 3, code := prog_24_method_2_code, exceptionTable := #[], attributes := #[] }
def k2m1 : Method := { name := "<init>", desc := "(J)V", sig := { parameters := [.long], returnType := none }, accessFlags := 0, code := some k2c1 }
def k2c2 : Code := { maxStack := 2, maxLocals := 1, code := prog_24_method_3_code, exceptionTable := #[], attributes := #[] }
def k2m2 : Method := { name := "beginObject", desc := "()V", sig := { parameters := [], returnType := none }, accessFlags := 0, code := some k2c2 }
def k2c3 : Code := { maxStack := 2, maxLocals := 1, code := prog_24_method_4_code, exceptionTable := #[], attributes := #[] }
def k2m3 : Method := { name := "endObject", desc := "()V", sig := { parameters := [], returnType := none }, accessFlags := 0, code := some k2c3 }
def k2c4 : Code := { maxStack := 2, maxLocals := 2, code := prog_24_method_5_code, exceptionTable := #[], attributes := #[] }
def k2m4 : Method := { name := "beginArray", desc := "(Ljava/lang/String;)V", sig := { parameters := [(.object "java/lang/String")], returnType := none }, accessFlags := 0, code := some k2c4 }
def k2c5 : Code := { maxStack := 2, maxLocals := 1, code := prog_24_method_6_code, exceptionTable := #[], attributes := #[] }
def k2m5 : Method := { name := "endArray", desc := "()V", sig := { parameters := [], returnType := none }, accessFlags := 0, code := some k2c5 }
def k2c6 : Code := { maxStack := 2, maxLocals := 3, code := prog_24_method_7_code, exceptionTable := #[], attributes := #[] }
def k2m6 : Method := { name := "member", desc := "(Ljava/lang/String;Ljava/lang/String;)V", sig := { parameters := [(.object "java/lang/String"), (.object "java/lang/String")], returnType := none }, accessFlags := 0, code := some k2c6 }
def k2c7 : Code := { maxStack := 3, maxLocals := 4, code := prog_24_method_8_code, exceptionTable := #[], attributes := #[] }
def k2m7 : Method := { name := "member", desc := "(Ljava/lang/String;J)V", sig := { parameters := [(.object "java/lang/String"), .long], returnType := none }, accessFlags := 0, code := some k2c7 }
def k2c8 : Code := { maxStack := 2, maxLocals := 3, code := prog_24_method_9_code, exceptionTable := #[], attributes := #[] }
def k2m8 : Method := { name := "member", desc := "(Ljava/lang/String;Z)V", sig := { parameters := [(.object "java/lang/String"), .boolean], returnType := none }, accessFlags := 0, code := some k2c8 }
def k2c9 : Code := { maxStack := 1, maxLocals := 1, code := prog_24_method_10_code, exceptionTable := #[], attributes := #[] }
def k2m9 : Method := { name := "text", desc := "()Ljava/lang/String;", sig := { parameters := [], returnType := some (.object "java/lang/String") }, accessFlags := 0, code := some k2c9 }
def k2c10 : Code := { maxStack := 2, maxLocals := 2, code := prog_24_method_11_code, exceptionTable := #[], attributes := #[] }
def k2m10 : Method := { name := "name", desc := "(Ljava/lang/String;)V", sig := { parameters := [(.object "java/lang/String")], returnType := none }, accessFlags := 2, code := some k2c10 }
def k2c11 : Code := { maxStack := 2, maxLocals := 2, code := prog_24_method_12_code, exceptionTable := #[], attributes := #[] }
def k2m11 : Method := { name := "separate", desc := "()V", sig := { parameters := [], returnType := none }, accessFlags := 2, code := some k2c11 }
def k2c12 : Code := { maxStack := 4, maxLocals := 5, code := prog_24_method_13_code, exceptionTable := #[], attributes := #[] }
def k2m12 : Method := { name := "string", desc := "(Ljava/lang/String;)V", sig := { parameters := [(.object "java/lang/String")], returnType := none }, accessFlags := 2, code := some k2c12 }
/-- com/example/half_message_commit/halfmessagecommit/protocol/JsonWriter -/
def k2 : Class := { plain "com/example/half_message_commit/halfmessagecommit/protocol/JsonWriter" (some 0) with
  accessFlags := 48
  interfaces := #[]
  cf := some (fileOf pool2 3 #[] #[{ accessFlags := 0, nameIndex := 9, descriptorIndex := 15, attributes := #[] }, { accessFlags := 0, nameIndex := 9, descriptorIndex := 10, attributes := #[] }, { accessFlags := 0, nameIndex := 105, descriptorIndex := 15, attributes := #[] }, { accessFlags := 0, nameIndex := 106, descriptorIndex := 15, attributes := #[] }, { accessFlags := 0, nameIndex := 107, descriptorIndex := 43, attributes := #[] }, { accessFlags := 0, nameIndex := 108, descriptorIndex := 15, attributes := #[] }, { accessFlags := 0, nameIndex := 109, descriptorIndex := 110, attributes := #[] }, { accessFlags := 0, nameIndex := 109, descriptorIndex := 112, attributes := #[] }, { accessFlags := 0, nameIndex := 109, descriptorIndex := 113, attributes := #[] }, { accessFlags := 0, nameIndex := 31, descriptorIndex := 61, attributes := #[] }, { accessFlags := 2, nameIndex := 42, descriptorIndex := 43, attributes := #[] }, { accessFlags := 2, nameIndex := 35, descriptorIndex := 15, attributes := #[] }, { accessFlags := 2, nameIndex := 51, descriptorIndex := 43, attributes := #[] }] 48 12 #[] #[{ accessFlags := 26, nameIndex := 97, descriptorIndex := 98, attributes := #[] }, { accessFlags := 26, nameIndex := 101, descriptorIndex := 98, attributes := #[] }, { accessFlags := 26, nameIndex := 85, descriptorIndex := 86, attributes := #[] }, { accessFlags := 18, nameIndex := 31, descriptorIndex := 32, attributes := #[] }])
  fields := #[{ name := "SMALL_TEXT", type := .int, accessFlags := 26, slot := 0, constantValue := 0 }, { name := "LARGEST_CAPACITY", type := .int, accessFlags := 26, slot := 1, constantValue := 0 }, { name := "HEX", type := (.object "java/util/HexFormat"), accessFlags := 26, slot := 2, constantValue := 0 }, { name := "text", type := (.object "java/lang/StringBuilder"), accessFlags := 18, slot := 0, constantValue := 0 }]
  methods := #[k2m0, k2m1, k2m2, k2m3, k2m4, k2m5, k2m6, k2m7, k2m8, k2m9, k2m10, k2m11, k2m12]
  instanceTypes := #[(.object "java/lang/StringBuilder")]
  staticTypes := #[.int, .int, (.object "java/util/HexFormat")]
  resolved := Array.replicate 117 none
  statics := none }

def pool3 : Array CpInfo := pool [(1, .class_ 2), (0, u "java/lang/Appendable"), (0, .class_ 4), (0, u "java/lang/Object")] 9

/-- java/lang/Appendable -/
def k3 : Class := { plain "java/lang/Appendable" (some 0) with
  accessFlags := 1537
  interfaces := #[]
  cf := some (fileOf pool3 1 #[] #[] 1537 3 #[] #[])
  fields := #[]
  methods := #[]
  instanceTypes := #[]
  staticTypes := #[]
  resolved := Array.replicate 14 none
  statics := none }

def pool4 : Array CpInfo := pool [(2, .class_ 4), (1, u "java/lang/CharSequence"), (0, u "length"), (0, u "()I"), (40, .class_ 48), (0, u "java/lang/CharSequence$1CodePointIterator"), (10, .class_ 60), (0, u "java/lang/CharSequence$1CharIterator"), (5, .class_ 67), (0, u "java/lang/Object")] 63

def k4m0 : Method := { name := "length", desc := "()I", sig := { parameters := [], returnType := some .int }, accessFlags := 1025, code := none }
/-- java/lang/CharSequence -/
def k4 : Class := { plain "java/lang/CharSequence" (some 0) with
  accessFlags := 1537
  interfaces := #[]
  cf := some (fileOf pool4 2 #[.nestMembers #[47, 59]] #[{ accessFlags := 1025, nameIndex := 5, descriptorIndex := 6, attributes := #[] }] 1537 66 #[] #[])
  fields := #[]
  methods := #[k4m0]
  instanceTypes := #[]
  staticTypes := #[]
  resolved := Array.replicate 131 none
  statics := none }

def pool5 : Array CpInfo := pool [(1, .class_ 2), (0, u "java/lang/String"), (0, .methodref 4 5), (0, .class_ 6), (0, .nameAndType 7 8), (0, u "java/lang/Object"), (0, u "<init>"), (0, u "()V"), (1, .class_ 12), (1, u "java/lang/AbstractStringBuilder"), (0, u "EMPTYVALUE"), (0, u "[B"), (0, .fieldref 10 16), (0, .nameAndType 17 14), (0, u "value"), (0, .fieldref 1 19), (0, .nameAndType 20 21), (0, u "COMPACT_STRINGS"), (0, u "Z"), (0, .fieldref 10 23), (0, .nameAndType 24 25), (0, u "coder"), (0, u "B"), (6, .methodref 1 33), (0, .nameAndType 34 35), (0, u "length"), (0, u "()I"), (3, .integer 2147483647), (0, .methodref 1 41), (0, .nameAndType 24 42), (0, u "()B"), (2, u "append"), (0, u "(Ljava/lang/String;)Ljava/lang/AbstractStringBuilder;"), (0, .interfaceMethodref 48 33), (0, .class_ 49), (0, u "java/lang/CharSequence"), (19, u "(Ljava/lang/String;)V"), (5, u "maybeLatin1"), (3, .fieldref 10 80), (0, .nameAndType 81 82), (0, u "count"), (0, u "I"), (0, .methodref 10 84), (0, .nameAndType 85 86), (0, u "isLatin1"), (0, u "()Z"), (1, .class_ 90), (1, u "java/lang/StringLatin1"), (9, .methodref 10 101), (0, .nameAndType 102 103), (0, u "ensureCapacityInternal"), (0, u "(I)V"), (0, .methodref 10 105), (0, .nameAndType 106 107), (0, u "newCapacity"), (0, u "(I)I"), (0, .methodref 109 110), (0, .class_ 111), (0, .nameAndType 112 113), (0, u "java/util/Arrays"), (0, u "copyOf"), (0, u "([BI)[B"), (0, .methodref 115 116), (0, .class_ 117), (0, .nameAndType 118 119), (0, u "jdk/internal/util/ArraysSupport"), (0, u "newLength"), (0, u "(III)I"), (18, .methodref 139 140), (0, .class_ 141), (0, .nameAndType 142 143), (0, u "java/lang/Math"), (0, u "min"), (0, u "(II)I"), (0, .methodref 1 145), (0, .nameAndType 146 147), (0, u "checkIndex"), (0, u "(II)V"), (13, .methodref 162 163), (0, .class_ 164), (0, .nameAndType 165 166), (0, u "jdk/internal/util/Preconditions"), (0, u "checkFromToIndex"), (0, u "(IIILjava/util/function/BiFunction;)I"), (15, u "Ljava/util/function/BiFunction;"), (0, .fieldref 162 184), (0, .nameAndType 185 182), (0, u "IOOBE_FORMATTER"), (2, u "getChars"), (2, .methodref 88 192), (0, .nameAndType 193 194), (0, u "canEncode"), (0, u "(C)Z"), (13, .methodref 10 209), (0, .nameAndType 210 211), (0, u "putStringAt"), (0, u "(ILjava/lang/String;)V"), (5, u "inflateIfNeededFor"), (2, .nameAndType 221 222), (0, u "getBytes"), (0, u "([BIB)V"), (2, u "(Ljava/lang/CharSequence;II)Ljava/lang/AbstractStringBuilder;"), (6, .methodref 10 233), (0, .nameAndType 234 235), (0, u "appendChars"), (0, u "(Ljava/lang/String;II)V"), (11, u "stringSize"), (6, .methodref 255 256), (0, .class_ 257), (0, .nameAndType 247 258), (0, u "java/lang/Long"), (0, u "(J)I"), (0, .methodref 255 260), (0, .nameAndType 188 261), (0, u "(JI[B)I"), (30, u "(C)Ljava/lang/AbstractStringBuilder;"), (16, .methodref 310 311), (0, .class_ 312), (0, .nameAndType 313 314), (0, u "java/lang/System"), (0, u "arraycopy"), (0, u "(Ljava/lang/Object;ILjava/lang/Object;II)V"), (77, u "charAt"), (0, u "(I)C"), (3, .methodref 10 398), (0, .nameAndType 217 69), (0, .methodref 1 220), (0, .methodref 1 84), (0, .methodref 1 402), (0, .nameAndType 17 403), (0, u "()[B"), (40, .class_ 445), (0, u "java/lang/Appendable"), (62, u "(Z)Ljava/lang/AbstractStringBuilder;"), (4, u "(J)Ljava/lang/AbstractStringBuilder;"), (38, u "getValue")] 56

def k5m0 : Method := { name := "<init>", desc := "()V", sig := { parameters := [], returnType := none }, accessFlags := 0, code := none }
def k5c1 : Code := { maxStack := 2, maxLocals := 2, code := jdk_68_method_2_code, exceptionTable := #[], attributes := #[] }
def k5m1 : Method := { name := "<init>", desc := "(I)V", sig := { parameters := [.int], returnType := none }, accessFlags := 0, code := some k5c1 }
def k5c2 : Code := { maxStack := 1, maxLocals := 1, code := jdk_68_method_6_code, exceptionTable := #[], attributes := #[] }
def k5m2 : Method := { name := "length", desc := "()I", sig := { parameters := [], returnType := some .int }, accessFlags := 1, code := some k5c2 }
def k5c3 : Code := { maxStack := 4, maxLocals := 3, code := jdk_68_method_9_code, exceptionTable := #[], attributes := #[] }
def k5m3 : Method := { name := "ensureCapacityInternal", desc := "(I)V", sig := { parameters := [.int], returnType := none }, accessFlags := 2, code := some k5c3 }
def k5c4 : Code := { maxStack := 5, maxLocals := 6, code := jdk_68_method_10_code, exceptionTable := #[], attributes := #[] }
def k5m4 : Method := { name := "newCapacity", desc := "(I)I", sig := { parameters := [.int], returnType := some .int }, accessFlags := 2, code := some k5c4 }
def k5c5 : Code := { maxStack := 3, maxLocals := 5, code := jdk_68_method_14_code, exceptionTable := #[], attributes := #[] }
def k5m5 : Method := { name := "charAt", desc := "(I)C", sig := { parameters := [.int], returnType := some .char }, accessFlags := 1, code := some k5c5 }
def k5c6 : Code := { maxStack := 3, maxLocals := 3, code := jdk_68_method_22_code, exceptionTable := #[], attributes := #[] }
def k5m6 : Method := { name := "append", desc := "(Ljava/lang/String;)Ljava/lang/AbstractStringBuilder;", sig := { parameters := [(.object "java/lang/String")], returnType := some (.object "java/lang/AbstractStringBuilder") }, accessFlags := 1, code := some k5c6 }
def k5c7 : Code := { maxStack := 4, maxLocals := 5, code := jdk_68_method_27_code, exceptionTable := #[], attributes := #[] }
def k5m7 : Method := { name := "append", desc := "(Ljava/lang/CharSequence;II)Ljava/lang/AbstractStringBuilder;", sig := { parameters := [(.object "java/lang/CharSequence"), .int, .int], returnType := some (.object "java/lang/AbstractStringBuilder") }, accessFlags := 1, code := some k5c7 }
def k5c8 : Code := { maxStack := 7, maxLocals := 4, code := jdk_68_method_30_code, exceptionTable := #[], attributes := #[] }
def k5m8 : Method := { name := "append", desc := "(Z)Ljava/lang/AbstractStringBuilder;", sig := { parameters := [.boolean], returnType := some (.object "java/lang/AbstractStringBuilder") }, accessFlags := 1, code := some k5c8 }
def k5c9 : Code := { maxStack := 5, maxLocals := 2, code := jdk_68_method_31_code, exceptionTable := #[], attributes := #[] }
def k5m9 : Method := { name := "append", desc := "(C)Ljava/lang/AbstractStringBuilder;", sig := { parameters := [.char], returnType := some (.object "java/lang/AbstractStringBuilder") }, accessFlags := 1, code := some k5c9 }
def k5c10 : Code := { maxStack := 5, maxLocals := 5, code := jdk_68_method_33_code, exceptionTable := #[], attributes := #[] }
def k5m10 : Method := { name := "append", desc := "(J)Ljava/lang/AbstractStringBuilder;", sig := { parameters := [.long], returnType := some (.object "java/lang/AbstractStringBuilder") }, accessFlags := 1, code := some k5c10 }
def k5c11 : Code := { maxStack := 1, maxLocals := 1, code := jdk_68_method_64_code, exceptionTable := #[], attributes := #[] }
def k5m11 : Method := { name := "getValue", desc := "()[B", sig := { parameters := [], returnType := some (.array .byte) }, accessFlags := 16, code := some k5c11 }
def k5c12 : Code := { maxStack := 1, maxLocals := 1, code := jdk_68_method_68_code, exceptionTable := #[], attributes := #[] }
def k5m12 : Method := { name := "isLatin1", desc := "()Z", sig := { parameters := [], returnType := some .boolean }, accessFlags := 16, code := some k5c12 }
def k5c13 : Code := { maxStack := 2, maxLocals := 2, code := jdk_68_method_71_code, exceptionTable := #[], attributes := #[] }
def k5m13 : Method := { name := "inflateIfNeededFor", desc := "(Ljava/lang/String;)V", sig := { parameters := [(.object "java/lang/String")], returnType := none }, accessFlags := 2, code := some k5c13 }
def k5c14 : Code := { maxStack := 4, maxLocals := 3, code := jdk_68_method_73_code, exceptionTable := #[], attributes := #[] }
def k5m14 : Method := { name := "putStringAt", desc := "(ILjava/lang/String;)V", sig := { parameters := [.int, (.object "java/lang/String")], returnType := none }, accessFlags := 2, code := some k5c14 }
def k5c15 : Code := { maxStack := 6, maxLocals := 8, code := jdk_68_method_75_code, exceptionTable := #[], attributes := #[] }
def k5m15 : Method := { name := "appendChars", desc := "(Ljava/lang/String;II)V", sig := { parameters := [(.object "java/lang/String"), .int, .int], returnType := none }, accessFlags := 18, code := some k5c15 }
/-- java/lang/AbstractStringBuilder -/
def k5 : Class := { plain "java/lang/AbstractStringBuilder" (some 0) with
  accessFlags := 1056
  interfaces := #[3, 4]
  cf := some (fileOf pool5 10 #[] #[{ accessFlags := 0, nameIndex := 7, descriptorIndex := 8, attributes := #[] }, { accessFlags := 0, nameIndex := 7, descriptorIndex := 103, attributes := #[] }, { accessFlags := 1, nameIndex := 34, descriptorIndex := 35, attributes := #[] }, { accessFlags := 2, nameIndex := 102, descriptorIndex := 103, attributes := #[] }, { accessFlags := 2, nameIndex := 106, descriptorIndex := 107, attributes := #[] }, { accessFlags := 1, nameIndex := 392, descriptorIndex := 393, attributes := #[] }, { accessFlags := 1, nameIndex := 45, descriptorIndex := 46, attributes := #[] }, { accessFlags := 1, nameIndex := 45, descriptorIndex := 225, attributes := #[] }, { accessFlags := 1, nameIndex := 45, descriptorIndex := 508, attributes := #[] }, { accessFlags := 1, nameIndex := 45, descriptorIndex := 292, attributes := #[] }, { accessFlags := 1, nameIndex := 45, descriptorIndex := 513, attributes := #[] }, { accessFlags := 16, nameIndex := 552, descriptorIndex := 403, attributes := #[] }, { accessFlags := 16, nameIndex := 85, descriptorIndex := 86, attributes := #[] }, { accessFlags := 2, nameIndex := 217, descriptorIndex := 69, attributes := #[] }, { accessFlags := 2, nameIndex := 210, descriptorIndex := 211, attributes := #[] }, { accessFlags := 18, nameIndex := 234, descriptorIndex := 235, attributes := #[] }] 1056 4 #[444, 48] #[{ accessFlags := 0, nameIndex := 17, descriptorIndex := 14, attributes := #[] }, { accessFlags := 0, nameIndex := 24, descriptorIndex := 25, attributes := #[] }, { accessFlags := 0, nameIndex := 75, descriptorIndex := 21, attributes := #[] }, { accessFlags := 0, nameIndex := 81, descriptorIndex := 82, attributes := #[] }, { accessFlags := 26, nameIndex := 13, descriptorIndex := 14, attributes := #[] }])
  fields := #[{ name := "value", type := (.array .byte), accessFlags := 0, slot := 0, constantValue := 0 }, { name := "coder", type := .byte, accessFlags := 0, slot := 1, constantValue := 0 }, { name := "maybeLatin1", type := .boolean, accessFlags := 0, slot := 2, constantValue := 0 }, { name := "count", type := .int, accessFlags := 0, slot := 3, constantValue := 0 }, { name := "EMPTYVALUE", type := (.array .byte), accessFlags := 26, slot := 0, constantValue := 0 }]
  methods := #[k5m0, k5m1, k5m2, k5m3, k5m4, k5m5, k5m6, k5m7, k5m8, k5m9, k5m10, k5m11, k5m12, k5m13, k5m14, k5m15]
  instanceTypes := #[(.array .byte), .byte, .boolean, .int]
  staticTypes := #[(.array .byte)]
  resolved := Array.replicate 609 none
  statics := none }

def pool6 : Array CpInfo := pool [(1, .class_ 2), (0, u "java/io/Serializable"), (0, .class_ 4), (0, u "java/lang/Object")] 2

/-- java/io/Serializable -/
def k6 : Class := { plain "java/io/Serializable" (some 0) with
  accessFlags := 1537
  interfaces := #[]
  cf := some (fileOf pool6 1 #[] #[] 1537 3 #[] #[])
  fields := #[]
  methods := #[]
  instanceTypes := #[]
  staticTypes := #[]
  resolved := Array.replicate 7 none
  statics := none }

def pool7 : Array CpInfo := pool [(1, .class_ 2), (0, u "java/lang/Comparable"), (0, .class_ 4), (0, u "java/lang/Object")] 7

/-- java/lang/Comparable -/
def k7 : Class := { plain "java/lang/Comparable" (some 0) with
  accessFlags := 1537
  interfaces := #[]
  cf := some (fileOf pool7 1 #[] #[] 1537 3 #[] #[])
  fields := #[]
  methods := #[]
  instanceTypes := #[]
  staticTypes := #[]
  resolved := Array.replicate 12 none
  statics := none }

def pool8 : Array CpInfo := pool [(1, .methodref 2 3), (0, .class_ 4), (0, .nameAndType 5 6), (0, u "java/lang/AbstractStringBuilder"), (0, u "<init>"), (0, u "(I)V"), (11, .class_ 20), (1, u "java/lang/String"), (3, .class_ 26), (1, u "java/lang/StringBuilder"), (0, u "append"), (0, u "(Ljava/lang/String;)Ljava/lang/StringBuilder;"), (0, .methodref 2 30), (0, .nameAndType 27 31), (0, u "(Ljava/lang/String;)Ljava/lang/AbstractStringBuilder;"), (6, .methodref 2 39), (0, .nameAndType 27 40), (0, u "(Ljava/lang/CharSequence;II)Ljava/lang/AbstractStringBuilder;"), (6, .methodref 2 48), (0, .nameAndType 27 49), (0, u "(Z)Ljava/lang/AbstractStringBuilder;"), (0, .methodref 2 51), (0, .nameAndType 27 52), (0, u "(C)Ljava/lang/AbstractStringBuilder;"), (3, .methodref 2 57), (0, .nameAndType 27 58), (0, u "(J)Ljava/lang/AbstractStringBuilder;"), (78, .methodref 18 138), (0, .nameAndType 5 139), (0, u "(Ljava/lang/StringBuilder;)V"), (5, u "()V"), (10, u "()I"), (124, u "(J)Ljava/lang/StringBuilder;"), (4, u "(C)Ljava/lang/StringBuilder;"), (2, u "(Z)Ljava/lang/StringBuilder;"), (8, u "(Ljava/lang/CharSequence;II)Ljava/lang/StringBuilder;"), (30, .methodref 2 330), (0, .nameAndType 331 332), (0, u "charAt"), (0, u "(I)C"), (10, .methodref 2 344), (0, .nameAndType 345 156), (0, u "length"), (3, .class_ 350), (0, u "java/lang/Appendable"), (0, .class_ 352), (0, u "java/io/Serializable"), (0, .class_ 354), (0, u "java/lang/Comparable"), (0, .class_ 356), (0, u "java/lang/CharSequence"), (0, u "serialVersionUID"), (0, u "J"), (40, u "toString"), (0, u "()Ljava/lang/String;")] 21

def k8m0 : Method := { name := "<init>", desc := "()V", sig := { parameters := [], returnType := none }, accessFlags := 1, code := none }
def k8c1 : Code := { maxStack := 2, maxLocals := 2, code := jdk_67_method_2_code, exceptionTable := #[], attributes := #[] }
def k8m1 : Method := { name := "<init>", desc := "(I)V", sig := { parameters := [.int], returnType := none }, accessFlags := 1, code := some k8c1 }
def k8c2 : Code := { maxStack := 2, maxLocals := 2, code := jdk_67_method_7_code, exceptionTable := #[], attributes := #[] }
def k8m2 : Method := { name := "append", desc := "(Ljava/lang/String;)Ljava/lang/StringBuilder;", sig := { parameters := [(.object "java/lang/String")], returnType := some (.object "java/lang/StringBuilder") }, accessFlags := 1, code := some k8c2 }
def k8c3 : Code := { maxStack := 4, maxLocals := 4, code := jdk_67_method_10_code, exceptionTable := #[], attributes := #[] }
def k8m3 : Method := { name := "append", desc := "(Ljava/lang/CharSequence;II)Ljava/lang/StringBuilder;", sig := { parameters := [(.object "java/lang/CharSequence"), .int, .int], returnType := some (.object "java/lang/StringBuilder") }, accessFlags := 1, code := some k8c3 }
def k8c4 : Code := { maxStack := 2, maxLocals := 2, code := jdk_67_method_13_code, exceptionTable := #[], attributes := #[] }
def k8m4 : Method := { name := "append", desc := "(Z)Ljava/lang/StringBuilder;", sig := { parameters := [.boolean], returnType := some (.object "java/lang/StringBuilder") }, accessFlags := 1, code := some k8c4 }
def k8c5 : Code := { maxStack := 2, maxLocals := 2, code := jdk_67_method_14_code, exceptionTable := #[], attributes := #[] }
def k8m5 : Method := { name := "append", desc := "(C)Ljava/lang/StringBuilder;", sig := { parameters := [.char], returnType := some (.object "java/lang/StringBuilder") }, accessFlags := 1, code := some k8c5 }
def k8c6 : Code := { maxStack := 3, maxLocals := 3, code := jdk_67_method_16_code, exceptionTable := #[], attributes := #[] }
def k8m6 : Method := { name := "append", desc := "(J)Ljava/lang/StringBuilder;", sig := { parameters := [.long], returnType := some (.object "java/lang/StringBuilder") }, accessFlags := 1, code := some k8c6 }
def k8c7 : Code := { maxStack := 3, maxLocals := 1, code := jdk_67_method_42_code, exceptionTable := #[], attributes := #[] }
def k8m7 : Method := { name := "toString", desc := "()Ljava/lang/String;", sig := { parameters := [], returnType := some (.object "java/lang/String") }, accessFlags := 1, code := some k8c7 }
def k8c8 : Code := { maxStack := 2, maxLocals := 2, code := jdk_67_method_88_code, exceptionTable := #[], attributes := #[] }
def k8m8 : Method := { name := "charAt", desc := "(I)C", sig := { parameters := [.int], returnType := some .char }, accessFlags := 4161, code := some k8c8 }
def k8c9 : Code := { maxStack := 1, maxLocals := 1, code := jdk_67_method_93_code, exceptionTable := #[], attributes := #[] }
def k8m9 : Method := { name := "length", desc := "()I", sig := { parameters := [], returnType := some .int }, accessFlags := 4161, code := some k8c9 }
/-- java/lang/StringBuilder -/
def k8 : Class := { plain "java/lang/StringBuilder" (some 5) with
  accessFlags := 49
  interfaces := #[3, 6, 7, 4]
  cf := some (fileOf pool8 24 #[] #[{ accessFlags := 1, nameIndex := 5, descriptorIndex := 145, attributes := #[] }, { accessFlags := 1, nameIndex := 5, descriptorIndex := 6, attributes := #[] }, { accessFlags := 1, nameIndex := 27, descriptorIndex := 28, attributes := #[] }, { accessFlags := 1, nameIndex := 27, descriptorIndex := 298, attributes := #[] }, { accessFlags := 1, nameIndex := 27, descriptorIndex := 289, attributes := #[] }, { accessFlags := 1, nameIndex := 27, descriptorIndex := 286, attributes := #[] }, { accessFlags := 1, nameIndex := 27, descriptorIndex := 281, attributes := #[] }, { accessFlags := 1, nameIndex := 399, descriptorIndex := 400, attributes := #[] }, { accessFlags := 4161, nameIndex := 331, descriptorIndex := 332, attributes := #[] }, { accessFlags := 4161, nameIndex := 345, descriptorIndex := 156, attributes := #[] }] 49 2 #[349, 351, 353, 355] #[{ accessFlags := 24, nameIndex := 357, descriptorIndex := 358, attributes := #[] }])
  fields := #[{ name := "serialVersionUID", type := .long, accessFlags := 24, slot := 0, constantValue := 0 }]
  methods := #[k8m0, k8m1, k8m2, k8m3, k8m4, k8m5, k8m6, k8m7, k8m8, k8m9]
  instanceTypes := #[(.array .byte), .byte, .boolean, .int]
  staticTypes := #[.long]
  resolved := Array.replicate 422 none
  statics := none }

def pool9 : Array CpInfo := pool [(1, .class_ 2), (0, u "java/lang/Math"), (1, .class_ 6), (1, u "java/lang/Object"), (0, u "<init>"), (0, u "()V"), (89, .class_ 100), (1, u "java/lang/Math$RandomNumberGeneratorHolder"), (20, u "(JJ)J"), (50, u "negativeZeroFloatBits"), (0, u "J"), (2, u "negativeZeroDoubleBits"), (21, u "max"), (2, u "min"), (43, u "$assertionsDisabled"), (0, u "Z"), (88, u "(II)I"), (2, u "twoToTheDoubleScaleDown"), (0, u "D"), (4, u "twoToTheDoubleScaleUp"), (9, u "E"), (3, u "PI"), (2, u "TAU"), (2, u "DEGREES_TO_RADIANS"), (0, u "RADIANS_TO_DEGREES")] 94

def k9m0 : Method := { name := "<init>", desc := "()V", sig := { parameters := [], returnType := none }, accessFlags := 2, code := none }
def k9c1 : Code := { maxStack := 2, maxLocals := 2, code := jdk_29_method_65_code, exceptionTable := #[], attributes := #[] }
def k9m1 : Method := { name := "max", desc := "(II)I", sig := { parameters := [.int, .int], returnType := some .int }, accessFlags := 9, code := some k9c1 }
def k9c2 : Code := { maxStack := 2, maxLocals := 2, code := jdk_29_method_69_code, exceptionTable := #[], attributes := #[] }
def k9m2 : Method := { name := "min", desc := "(II)I", sig := { parameters := [.int, .int], returnType := some .int }, accessFlags := 9, code := some k9c2 }
def k9c3 : Code := { maxStack := 4, maxLocals := 4, code := jdk_29_method_70_code, exceptionTable := #[], attributes := #[] }
def k9m3 : Method := { name := "min", desc := "(JJ)J", sig := { parameters := [.long, .long], returnType := some .long }, accessFlags := 9, code := some k9c3 }
/-- java/lang/Math -/
def k9 : Class := { plain "java/lang/Math" (some 0) with
  accessFlags := 49
  interfaces := #[]
  cf := some (fileOf pool9 1 #[.nestMembers #[98]] #[{ accessFlags := 2, nameIndex := 7, descriptorIndex := 8, attributes := #[] }, { accessFlags := 9, nameIndex := 198, descriptorIndex := 335, attributes := #[] }, { accessFlags := 9, nameIndex := 201, descriptorIndex := 335, attributes := #[] }, { accessFlags := 9, nameIndex := 201, descriptorIndex := 121, attributes := #[] }] 49 4 #[] #[{ accessFlags := 25, nameIndex := 354, descriptorIndex := 339, attributes := #[] }, { accessFlags := 25, nameIndex := 358, descriptorIndex := 339, attributes := #[] }, { accessFlags := 25, nameIndex := 361, descriptorIndex := 339, attributes := #[] }, { accessFlags := 26, nameIndex := 364, descriptorIndex := 339, attributes := #[] }, { accessFlags := 26, nameIndex := 365, descriptorIndex := 339, attributes := #[] }, { accessFlags := 26, nameIndex := 172, descriptorIndex := 173, attributes := #[] }, { accessFlags := 26, nameIndex := 176, descriptorIndex := 173, attributes := #[] }, { accessFlags := 8, nameIndex := 344, descriptorIndex := 339, attributes := #[] }, { accessFlags := 8, nameIndex := 338, descriptorIndex := 339, attributes := #[] }, { accessFlags := 4120, nameIndex := 245, descriptorIndex := 246, attributes := #[] }])
  fields := #[{ name := "E", type := .double, accessFlags := 25, slot := 0, constantValue := 0 }, { name := "PI", type := .double, accessFlags := 25, slot := 1, constantValue := 0 }, { name := "TAU", type := .double, accessFlags := 25, slot := 2, constantValue := 0 }, { name := "DEGREES_TO_RADIANS", type := .double, accessFlags := 26, slot := 3, constantValue := 0 }, { name := "RADIANS_TO_DEGREES", type := .double, accessFlags := 26, slot := 4, constantValue := 0 }, { name := "negativeZeroFloatBits", type := .long, accessFlags := 26, slot := 5, constantValue := 0 }, { name := "negativeZeroDoubleBits", type := .long, accessFlags := 26, slot := 6, constantValue := 0 }, { name := "twoToTheDoubleScaleUp", type := .double, accessFlags := 8, slot := 7, constantValue := 0 }, { name := "twoToTheDoubleScaleDown", type := .double, accessFlags := 8, slot := 8, constantValue := 0 }, { name := "$assertionsDisabled", type := .boolean, accessFlags := 4120, slot := 9, constantValue := 0 }]
  methods := #[k9m0, k9m1, k9m2, k9m3]
  instanceTypes := #[]
  staticTypes := #[.double, .double, .double, .double, .double, .long, .long, .double, .double, .boolean]
  resolved := Array.replicate 460 none
  statics := none }

def pool10 : Array CpInfo := pool [(1, .class_ 2), (0, u "java/lang/constant/Constable"), (0, .class_ 4), (0, u "java/lang/Object")] 6

/-- java/lang/constant/Constable -/
def k10 : Class := { plain "java/lang/constant/Constable" (some 0) with
  accessFlags := 1537
  interfaces := #[]
  cf := some (fileOf pool10 1 #[] #[] 1537 3 #[] #[])
  fields := #[]
  methods := #[]
  instanceTypes := #[]
  staticTypes := #[]
  resolved := Array.replicate 11 none
  statics := none }

def pool11 : Array CpInfo := pool [(1, .class_ 2), (0, u "java/lang/constant/ConstantDesc"), (0, .class_ 4), (0, u "java/lang/Object")] 32

/-- java/lang/constant/ConstantDesc -/
def k11 : Class := { plain "java/lang/constant/ConstantDesc" (some 0) with
  accessFlags := 1537
  interfaces := #[]
  cf := some (fileOf pool11 1 #[] #[] 1537 3 #[] #[])
  fields := #[]
  methods := #[]
  instanceTypes := #[]
  staticTypes := #[]
  resolved := Array.replicate 37 none
  statics := none }

def pool12 : Array CpInfo := pool [(1, .methodref 2 3), (0, .class_ 4), (0, .nameAndType 5 6), (0, u "java/lang/Object"), (0, u "<init>"), (0, u "()V"), (2, .fieldref 10 11), (0, .class_ 12), (0, .nameAndType 13 14), (0, u "java/lang/String"), (0, u "value"), (0, u "[B"), (0, .fieldref 10 16), (0, .nameAndType 17 18), (0, u "coder"), (0, u "B"), (2, u "hash"), (0, u "I"), (2, u "hashIsZero"), (0, u "Z"), (11, .fieldref 10 39), (0, .nameAndType 40 26), (0, u "COMPACT_STRINGS"), (13, .methodref 55 56), (0, .class_ 57), (0, .nameAndType 58 59), (0, u "java/util/Arrays"), (0, u "copyOfRange"), (0, u "([BII)[B"), (47, .class_ 109), (1, u "java/lang/StringLatin1"), (32, u "()Z"), (50, .class_ 195), (1, u "java/lang/System"), (16, .methodref 193 213), (0, .nameAndType 214 215), (0, u "arraycopy"), (0, u "(Ljava/lang/Object;ILjava/lang/Object;II)V"), (118, u "()I"), (0, .methodref 10 336), (0, .nameAndType 17 337), (0, u "()B"), (2, u "()[B"), (22, u "([BI)C"), (27, u "(II)V"), (35, u "(I)C"), (61, .methodref 10 490), (0, .nameAndType 5 491), (0, u "(Ljava/lang/AbstractStringBuilder;Ljava/lang/Void;)V"), (0, .methodref 10 493), (0, .nameAndType 494 142), (0, u "isLatin1"), (0, .methodref 107 496), (0, .nameAndType 497 363), (0, u "charAt"), (3, u "checkIndex"), (4, .nameAndType 507 334), (0, u "length"), (24, u "getBytes"), (8, .methodref 107 542), (0, .nameAndType 543 544), (0, u "equals"), (0, u "([B[B)Z"), (4, .methodref 550 506), (0, .class_ 551), (0, u "java/lang/AbstractStringBuilder"), (0, .methodref 550 553), (0, .nameAndType 554 340), (0, u "getValue"), (18, u "(Ljava/lang/Object;)Z"), (1, .class_ 576), (0, u "java/lang/CharSequence"), (22, u "CASE_INSENSITIVE_ORDER"), (0, u "Ljava/util/Comparator;"), (220, u "([BIB)V"), (225, .methodref 550 493), (5, .fieldref 1054 1055), (0, .class_ 1056), (0, .nameAndType 1057 1058), (0, u "jdk/internal/util/Preconditions"), (0, u "SIOOBE_FORMATTER"), (0, u "Ljava/util/function/BiFunction;"), (0, .methodref 1054 1060), (0, .nameAndType 501 1061), (0, u "(IILjava/util/function/BiFunction;)I"), (39, u "serialPersistentFields"), (0, u "[Ljava/io/ObjectStreamField;"), (0, .class_ 1104), (0, u "java/lang/String$CaseInsensitiveComparator"), (1, .class_ 1107), (0, u "java/io/Serializable"), (0, .class_ 1109), (0, u "java/lang/Comparable"), (0, .class_ 1111), (0, u "java/lang/constant/Constable"), (0, .class_ 1113), (0, u "java/lang/constant/ConstantDesc"), (2, u "serialVersionUID"), (0, u "J"), (3, u "REPL"), (0, u "C"), (2, u "LATIN1"), (1, u "UTF16"), (105, u "(Ljava/lang/StringBuilder;)V")] 217

def k12m0 : Method := { name := "<init>", desc := "()V", sig := { parameters := [], returnType := none }, accessFlags := 1, code := none }
def k12c1 : Code := { maxStack := 3, maxLocals := 2, code := jdk_42_method_53_code, exceptionTable := #[], attributes := #[] }
def k12m1 : Method := { name := "<init>", desc := "(Ljava/lang/StringBuilder;)V", sig := { parameters := [(.object "java/lang/StringBuilder")], returnType := none }, accessFlags := 1, code := some k12c1 }
def k12c2 : Code := { maxStack := 2, maxLocals := 1, code := jdk_42_method_54_code, exceptionTable := #[], attributes := #[] }
def k12m2 : Method := { name := "length", desc := "()I", sig := { parameters := [], returnType := some .int }, accessFlags := 1, code := some k12c2 }
def k12c3 : Code := { maxStack := 2, maxLocals := 2, code := jdk_42_method_56_code, exceptionTable := #[], attributes := #[] }
def k12m3 : Method := { name := "charAt", desc := "(I)C", sig := { parameters := [.int], returnType := some .char }, accessFlags := 1, code := some k12c3 }
def k12c4 : Code := { maxStack := 2, maxLocals := 3, code := jdk_42_method_66_code, exceptionTable := #[], attributes := #[] }
def k12m4 : Method := { name := "equals", desc := "(Ljava/lang/Object;)Z", sig := { parameters := [(.object "java/lang/Object")], returnType := some .boolean }, accessFlags := 1, code := some k12c4 }
def k12c5 : Code := { maxStack := 5, maxLocals := 4, code := jdk_42_method_147_code, exceptionTable := #[], attributes := #[] }
def k12m5 : Method := { name := "getBytes", desc := "([BIB)V", sig := { parameters := [(.array .byte), .int, .byte], returnType := none }, accessFlags := 0, code := some k12c5 }
def k12c6 : Code := { maxStack := 5, maxLocals := 5, code := jdk_42_method_150_code, exceptionTable := #[], attributes := #[] }
def k12m6 : Method := { name := "<init>", desc := "(Ljava/lang/AbstractStringBuilder;Ljava/lang/Void;)V", sig := { parameters := [(.object "java/lang/AbstractStringBuilder"), (.object "java/lang/Void")], returnType := none }, accessFlags := 0, code := some k12c6 }
def k12c7 : Code := { maxStack := 1, maxLocals := 1, code := jdk_42_method_152_code, exceptionTable := #[], attributes := #[] }
def k12m7 : Method := { name := "coder", desc := "()B", sig := { parameters := [], returnType := some .byte }, accessFlags := 0, code := some k12c7 }
def k12c8 : Code := { maxStack := 1, maxLocals := 1, code := jdk_42_method_153_code, exceptionTable := #[], attributes := #[] }
def k12m8 : Method := { name := "value", desc := "()[B", sig := { parameters := [], returnType := some (.array .byte) }, accessFlags := 0, code := some k12c8 }
def k12c9 : Code := { maxStack := 1, maxLocals := 1, code := jdk_42_method_154_code, exceptionTable := #[], attributes := #[] }
def k12m9 : Method := { name := "isLatin1", desc := "()Z", sig := { parameters := [], returnType := some .boolean }, accessFlags := 0, code := some k12c9 }
def k12c10 : Code := { maxStack := 3, maxLocals := 2, code := jdk_42_method_155_code, exceptionTable := #[], attributes := #[] }
def k12m10 : Method := { name := "checkIndex", desc := "(II)V", sig := { parameters := [.int, .int], returnType := none }, accessFlags := 8, code := some k12c10 }
/-- java/lang/String -/
def k12 : Class := { plain "java/lang/String" (some 0) with
  accessFlags := 49
  interfaces := #[6, 7, 4, 10, 11]
  cf := some (fileOf pool12 10 #[.nestMembers #[1103]] #[{ accessFlags := 1, nameIndex := 5, descriptorIndex := 6, attributes := #[] }, { accessFlags := 1, nameIndex := 5, descriptorIndex := 1233, attributes := #[] }, { accessFlags := 1, nameIndex := 507, descriptorIndex := 334, attributes := #[] }, { accessFlags := 1, nameIndex := 497, descriptorIndex := 427, attributes := #[] }, { accessFlags := 1, nameIndex := 543, descriptorIndex := 573, attributes := #[] }, { accessFlags := 0, nameIndex := 532, descriptorIndex := 821, attributes := #[] }, { accessFlags := 0, nameIndex := 5, descriptorIndex := 491, attributes := #[] }, { accessFlags := 0, nameIndex := 17, descriptorIndex := 337, attributes := #[] }, { accessFlags := 0, nameIndex := 13, descriptorIndex := 340, attributes := #[] }, { accessFlags := 0, nameIndex := 494, descriptorIndex := 142, attributes := #[] }, { accessFlags := 8, nameIndex := 501, descriptorIndex := 391, attributes := #[] }] 49 2 #[1106, 1108, 575, 1110, 1112] #[{ accessFlags := 18, nameIndex := 13, descriptorIndex := 14, attributes := #[] }, { accessFlags := 18, nameIndex := 17, descriptorIndex := 18, attributes := #[] }, { accessFlags := 2, nameIndex := 21, descriptorIndex := 22, attributes := #[] }, { accessFlags := 2, nameIndex := 25, descriptorIndex := 26, attributes := #[] }, { accessFlags := 26, nameIndex := 1116, descriptorIndex := 1117, attributes := #[] }, { accessFlags := 24, nameIndex := 40, descriptorIndex := 26, attributes := #[] }, { accessFlags := 26, nameIndex := 1101, descriptorIndex := 1102, attributes := #[] }, { accessFlags := 26, nameIndex := 1121, descriptorIndex := 1122, attributes := #[] }, { accessFlags := 25, nameIndex := 599, descriptorIndex := 600, attributes := #[] }, { accessFlags := 24, nameIndex := 1125, descriptorIndex := 18, attributes := #[] }, { accessFlags := 24, nameIndex := 1127, descriptorIndex := 18, attributes := #[] }])
  fields := #[{ name := "value", type := (.array .byte), accessFlags := 18, slot := 0, constantValue := 0 }, { name := "coder", type := .byte, accessFlags := 18, slot := 1, constantValue := 0 }, { name := "hash", type := .int, accessFlags := 2, slot := 2, constantValue := 0 }, { name := "hashIsZero", type := .boolean, accessFlags := 2, slot := 3, constantValue := 0 }, { name := "serialVersionUID", type := .long, accessFlags := 26, slot := 0, constantValue := 0 }, { name := "COMPACT_STRINGS", type := .boolean, accessFlags := 24, slot := 1, constantValue := 0 }, { name := "serialPersistentFields", type := (.array (.object "java/io/ObjectStreamField")), accessFlags := 26, slot := 2, constantValue := 0 }, { name := "REPL", type := .char, accessFlags := 26, slot := 3, constantValue := 0 }, { name := "CASE_INSENSITIVE_ORDER", type := (.object "java/util/Comparator"), accessFlags := 25, slot := 4, constantValue := 0 }, { name := "LATIN1", type := .byte, accessFlags := 24, slot := 5, constantValue := 0 }, { name := "UTF16", type := .byte, accessFlags := 24, slot := 6, constantValue := 0 }]
  methods := #[k12m0, k12m1, k12m2, k12m3, k12m4, k12m5, k12m6, k12m7, k12m8, k12m9, k12m10]
  instanceTypes := #[(.array .byte), .byte, .int, .boolean]
  staticTypes := #[.long, .boolean, (.array (.object "java/io/ObjectStreamField")), .char, (.object "java/util/Comparator"), .byte, .byte]
  resolved := Array.replicate 1451 none
  statics := some 0 }

def pool13 : Array CpInfo := pool [(1, .class_ 2), (0, u "java/lang/String"), (1, .class_ 6), (1, u "java/lang/Object"), (0, u "<init>"), (0, u "()V"), (0, .methodref 1 10), (0, .nameAndType 11 12), (0, u "checkIndex"), (0, u "(II)V"), (1, .class_ 16), (1, u "java/lang/StringLatin1"), (36, u "([BI)C"), (36, u "canEncode"), (14, u "(C)Z"), (15, u "$assertionsDisabled"), (0, u "Z"), (98, .class_ 223), (1, u "java/lang/StringLatin1$LinesSpliterator"), (28, u "charAt"), (28, u "equals"), (0, u "([B[B)Z"), (107, .class_ 391), (0, u "java/lang/StringLatin1$CharsSpliterator")] 3

def k13m0 : Method := { name := "<init>", desc := "()V", sig := { parameters := [], returnType := none }, accessFlags := 0, code := none }
def k13c1 : Code := { maxStack := 2, maxLocals := 2, code := jdk_43_method_2_code, exceptionTable := #[], attributes := #[] }
def k13m1 : Method := { name := "charAt", desc := "([BI)C", sig := { parameters := [(.array .byte), .int], returnType := some .char }, accessFlags := 9, code := some k13c1 }
def k13c2 : Code := { maxStack := 2, maxLocals := 1, code := jdk_43_method_3_code, exceptionTable := #[], attributes := #[] }
def k13m2 : Method := { name := "canEncode", desc := "(C)Z", sig := { parameters := [.char], returnType := some .boolean }, accessFlags := 9, code := some k13c2 }
def k13c3 : Code := { maxStack := 3, maxLocals := 3, code := jdk_43_method_13_code, exceptionTable := #[], attributes := #[] }
def k13m3 : Method := { name := "equals", desc := "([B[B)Z", sig := { parameters := [(.array .byte), (.array .byte)], returnType := some .boolean }, accessFlags := 9, code := some k13c3 }
/-- java/lang/StringLatin1 -/
def k13 : Class := { plain "java/lang/StringLatin1" (some 0) with
  accessFlags := 48
  interfaces := #[]
  cf := some (fileOf pool13 14 #[.nestMembers #[390, 221]] #[{ accessFlags := 0, nameIndex := 7, descriptorIndex := 8, attributes := #[] }, { accessFlags := 9, nameIndex := 252, descriptorIndex := 53, attributes := #[] }, { accessFlags := 9, nameIndex := 90, descriptorIndex := 105, attributes := #[] }, { accessFlags := 9, nameIndex := 281, descriptorIndex := 282, attributes := #[] }] 48 4 #[] #[{ accessFlags := 4120, nameIndex := 121, descriptorIndex := 122, attributes := #[] }])
  fields := #[{ name := "$assertionsDisabled", type := .boolean, accessFlags := 4120, slot := 0, constantValue := 0 }]
  methods := #[k13m0, k13m1, k13m2, k13m3]
  instanceTypes := #[]
  staticTypes := #[.boolean]
  resolved := Array.replicate 395 none
  statics := none }

def pool14 : Array CpInfo := pool [(2, .class_ 4), (1, u "java/lang/Object"), (0, u "<init>"), (0, u "()V"), (17, .class_ 26), (1, u "jdk/internal/util/Preconditions"), (6, u "checkIndex"), (13, u "checkFromToIndex"), (7, .class_ 56), (0, u "jdk/internal/util/Preconditions$4"), (57, .class_ 115), (0, u "jdk/internal/util/Preconditions$1"), (7, u "SIOOBE_FORMATTER"), (0, u "Ljava/util/function/BiFunction;"), (0, .class_ 126), (0, u "jdk/internal/util/Preconditions$2"), (3, u "AIOOBE_FORMATTER"), (0, .class_ 132), (0, u "jdk/internal/util/Preconditions$3"), (3, u "IOOBE_FORMATTER"), (41, u "(IILjava/util/function/BiFunction;)I"), (4, u "(IIILjava/util/function/BiFunction;)I")] 10

def k14m0 : Method := { name := "<init>", desc := "()V", sig := { parameters := [], returnType := none }, accessFlags := 1, code := none }
def k14c1 : Code := { maxStack := 3, maxLocals := 3, code := jdk_41_method_11_code, exceptionTable := #[], attributes := #[] }
def k14m1 : Method := { name := "checkIndex", desc := "(IILjava/util/function/BiFunction;)I", sig := { parameters := [.int, .int, (.object "java/util/function/BiFunction")], returnType := some .int }, accessFlags := 9, code := some k14c1 }
def k14c2 : Code := { maxStack := 4, maxLocals := 4, code := jdk_41_method_12_code, exceptionTable := #[], attributes := #[] }
def k14m2 : Method := { name := "checkFromToIndex", desc := "(IIILjava/util/function/BiFunction;)I", sig := { parameters := [.int, .int, .int, (.object "java/util/function/BiFunction")], returnType := some .int }, accessFlags := 9, code := some k14c2 }
/-- jdk/internal/util/Preconditions -/
def k14 : Class := { plain "jdk/internal/util/Preconditions" (some 0) with
  accessFlags := 33
  interfaces := #[]
  cf := some (fileOf pool14 24 #[.nestMembers #[55, 131, 125, 114]] #[{ accessFlags := 1, nameIndex := 5, descriptorIndex := 6, attributes := #[] }, { accessFlags := 9, nameIndex := 33, descriptorIndex := 178, attributes := #[] }, { accessFlags := 9, nameIndex := 47, descriptorIndex := 183, attributes := #[] }] 33 2 #[] #[{ accessFlags := 25, nameIndex := 123, descriptorIndex := 124, attributes := #[] }, { accessFlags := 25, nameIndex := 130, descriptorIndex := 124, attributes := #[] }, { accessFlags := 25, nameIndex := 136, descriptorIndex := 124, attributes := #[] }])
  fields := #[{ name := "SIOOBE_FORMATTER", type := (.object "java/util/function/BiFunction"), accessFlags := 25, slot := 0, constantValue := 0 }, { name := "AIOOBE_FORMATTER", type := (.object "java/util/function/BiFunction"), accessFlags := 25, slot := 1, constantValue := 0 }, { name := "IOOBE_FORMATTER", type := (.object "java/util/function/BiFunction"), accessFlags := 25, slot := 2, constantValue := 0 }]
  methods := #[k14m0, k14m1, k14m2]
  instanceTypes := #[]
  staticTypes := #[(.object "java/util/function/BiFunction"), (.object "java/util/function/BiFunction"), (.object "java/util/function/BiFunction")]
  resolved := Array.replicate 194 none
  statics := some 1 }

def pool15 : Array CpInfo := pool [(2, .class_ 4), (1, u "java/lang/Object"), (0, u "<init>"), (0, u "()V"), (1, .class_ 10), (1, u "java/lang/System"), (0, u "allowSecurityManager"), (0, u "I"), (16, u "cons"), (0, u "Ljava/io/Console;"), (77, .class_ 110), (1, u "java/lang/System$CallersHolder"), (43, u "initialErrStream"), (0, u "Ljava/io/PrintStream;"), (19, u "security"), (0, u "Ljava/lang/SecurityManager;"), (31, .class_ 209), (0, u "java/lang/System$1"), (7, u "props"), (0, u "Ljava/util/Properties;"), (2, u "lineSeparator"), (0, u "Ljava/lang/String;"), (96, .class_ 321), (1, u "java/lang/System$LoggerFinder"), (5, .class_ 328), (0, u "java/lang/System$Logger"), (67, u "err"), (2, u "out"), (91, u "notSupportedJnuEncoding"), (15, u "in"), (17, u "initialIn"), (0, u "Ljava/io/InputStream;"), (35, u "bootLayer"), (0, u "Ljava/lang/ModuleLayer;"), (99, .class_ 664), (0, u "java/lang/System$2"), (9, u "NEVER"), (2, u "MAYBE"), (49, u "arraycopy"), (0, u "(Ljava/lang/Object;ILjava/lang/Object;II)V"), (72, .class_ 802), (0, u "java/lang/System$Logger$Level")] 31

def k15m0 : Method := { name := "<init>", desc := "()V", sig := { parameters := [], returnType := none }, accessFlags := 2, code := none }
def k15m1 : Method := { name := "arraycopy", desc := "(Ljava/lang/Object;ILjava/lang/Object;II)V", sig := { parameters := [(.object "java/lang/Object"), .int, (.object "java/lang/Object"), .int, .int], returnType := none }, accessFlags := 265, code := none }
/-- java/lang/System -/
def k15 : Class := { plain "java/lang/System" (some 0) with
  accessFlags := 49
  interfaces := #[]
  cf := some (fileOf pool15 8 #[.nestMembers #[319, 327, 801, 108, 663, 208]] #[{ accessFlags := 2, nameIndex := 5, descriptorIndex := 6, attributes := #[] }, { accessFlags := 265, nameIndex := 727, descriptorIndex := 728, attributes := #[] }] 49 2 #[] #[{ accessFlags := 25, nameIndex := 507, descriptorIndex := 526, attributes := #[] }, { accessFlags := 25, nameIndex := 399, descriptorIndex := 155, attributes := #[] }, { accessFlags := 25, nameIndex := 396, descriptorIndex := 155, attributes := #[] }, { accessFlags := 10, nameIndex := 525, descriptorIndex := 526, attributes := #[] }, { accessFlags := 26, nameIndex := 674, descriptorIndex := 12, attributes := #[] }, { accessFlags := 26, nameIndex := 677, descriptorIndex := 12, attributes := #[] }, { accessFlags := 10, nameIndex := 11, descriptorIndex := 12, attributes := #[] }, { accessFlags := 74, nameIndex := 175, descriptorIndex := 176, attributes := #[] }, { accessFlags := 10, nameIndex := 491, descriptorIndex := 222, attributes := #[] }, { accessFlags := 74, nameIndex := 29, descriptorIndex := 30, attributes := #[] }, { accessFlags := 74, nameIndex := 154, descriptorIndex := 155, attributes := #[] }, { accessFlags := 10, nameIndex := 217, descriptorIndex := 218, attributes := #[] }, { accessFlags := 10, nameIndex := 221, descriptorIndex := 222, attributes := #[] }, { accessFlags := 8, nameIndex := 562, descriptorIndex := 563, attributes := #[] }])
  fields := #[{ name := "in", type := (.object "java/io/InputStream"), accessFlags := 25, slot := 0, constantValue := 0 }, { name := "out", type := (.object "java/io/PrintStream"), accessFlags := 25, slot := 1, constantValue := 0 }, { name := "err", type := (.object "java/io/PrintStream"), accessFlags := 25, slot := 2, constantValue := 0 }, { name := "initialIn", type := (.object "java/io/InputStream"), accessFlags := 10, slot := 3, constantValue := 0 }, { name := "NEVER", type := .int, accessFlags := 26, slot := 4, constantValue := 0 }, { name := "MAYBE", type := .int, accessFlags := 26, slot := 5, constantValue := 0 }, { name := "allowSecurityManager", type := .int, accessFlags := 10, slot := 6, constantValue := 0 }, { name := "security", type := (.object "java/lang/SecurityManager"), accessFlags := 74, slot := 7, constantValue := 0 }, { name := "notSupportedJnuEncoding", type := (.object "java/lang/String"), accessFlags := 10, slot := 8, constantValue := 0 }, { name := "cons", type := (.object "java/io/Console"), accessFlags := 74, slot := 9, constantValue := 0 }, { name := "initialErrStream", type := (.object "java/io/PrintStream"), accessFlags := 74, slot := 10, constantValue := 0 }, { name := "props", type := (.object "java/util/Properties"), accessFlags := 10, slot := 11, constantValue := 0 }, { name := "lineSeparator", type := (.object "java/lang/String"), accessFlags := 10, slot := 12, constantValue := 0 }, { name := "bootLayer", type := (.object "java/lang/ModuleLayer"), accessFlags := 8, slot := 13, constantValue := 0 }]
  methods := #[k15m0, k15m1]
  instanceTypes := #[]
  staticTypes := #[(.object "java/io/InputStream"), (.object "java/io/PrintStream"), (.object "java/io/PrintStream"), (.object "java/io/InputStream"), .int, .int, .int, (.object "java/lang/SecurityManager"), (.object "java/lang/String"), (.object "java/io/Console"), (.object "java/io/PrintStream"), (.object "java/util/Properties"), (.object "java/lang/String"), (.object "java/lang/ModuleLayer")]
  resolved := Array.replicate 834 none
  statics := none }

def pool16 : Array CpInfo := pool [(9, u "<init>"), (6, .class_ 18), (1, u "java/lang/Object"), (0, u "()V"), (1, .class_ 23), (1, u "jdk/internal/util/ArraysSupport"), (0, u "LOG2_ARRAY_LONG_INDEX_SCALE"), (0, u "I"), (2, u "U"), (0, u "Ljdk/internal/misc/Unsafe;"), (8, u "BIG_ENDIAN"), (0, u "Z"), (8, u "LOG2_BYTE_BIT_SIZE"), (4, u "LOG2_ARRAY_INT_INDEX_SCALE"), (54, u "JLA"), (0, u "Ljdk/internal/access/JavaLangAccess;"), (11, u "LOG2_ARRAY_BOOLEAN_INDEX_SCALE"), (9, u "LOG2_ARRAY_BYTE_INDEX_SCALE"), (5, u "LOG2_ARRAY_CHAR_INDEX_SCALE"), (5, u "LOG2_ARRAY_SHORT_INDEX_SCALE"), (18, u "LOG2_ARRAY_FLOAT_INDEX_SCALE"), (24, u "LOG2_ARRAY_DOUBLE_INDEX_SCALE"), (6, .methodref 195 196), (0, .class_ 197), (0, .nameAndType 198 199), (0, u "java/lang/Math"), (0, u "max"), (0, u "(II)I"), (0, .integer 2147483639), (76, u "T_BOOLEAN"), (2, u "T_CHAR"), (1, u "T_FLOAT"), (1, u "T_DOUBLE"), (1, u "T_BYTE"), (1, u "T_SHORT"), (1, u "T_INT"), (1, u "T_LONG"), (1, u "SOFT_MAX_ARRAY_LENGTH"), (56, u "newLength"), (0, u "(III)I")] 25

def k16m0 : Method := { name := "<init>", desc := "()V", sig := { parameters := [], returnType := none }, accessFlags := 2, code := none }
def k16c1 : Code := { maxStack := 3, maxLocals := 4, code := jdk_48_method_27_code, exceptionTable := #[], attributes := #[] }
def k16m1 : Method := { name := "newLength", desc := "(III)I", sig := { parameters := [.int, .int, .int], returnType := some .int }, accessFlags := 9, code := some k16c1 }
/-- jdk/internal/util/ArraysSupport -/
def k16 : Class := { plain "jdk/internal/util/ArraysSupport" (some 0) with
  accessFlags := 33
  interfaces := #[]
  cf := some (fileOf pool16 21 #[] #[{ accessFlags := 2, nameIndex := 9, descriptorIndex := 19, attributes := #[] }, { accessFlags := 9, nameIndex := 351, descriptorIndex := 352, attributes := #[] }] 33 16 #[] #[{ accessFlags := 24, nameIndex := 28, descriptorIndex := 29, attributes := #[] }, { accessFlags := 26, nameIndex := 38, descriptorIndex := 39, attributes := #[] }, { accessFlags := 25, nameIndex := 121, descriptorIndex := 25, attributes := #[] }, { accessFlags := 25, nameIndex := 131, descriptorIndex := 25, attributes := #[] }, { accessFlags := 25, nameIndex := 137, descriptorIndex := 25, attributes := #[] }, { accessFlags := 25, nameIndex := 143, descriptorIndex := 25, attributes := #[] }, { accessFlags := 25, nameIndex := 53, descriptorIndex := 25, attributes := #[] }, { accessFlags := 25, nameIndex := 24, descriptorIndex := 25, attributes := #[] }, { accessFlags := 25, nameIndex := 162, descriptorIndex := 25, attributes := #[] }, { accessFlags := 25, nameIndex := 187, descriptorIndex := 25, attributes := #[] }, { accessFlags := 26, nameIndex := 48, descriptorIndex := 25, attributes := #[] }, { accessFlags := 25, nameIndex := 277, descriptorIndex := 25, attributes := #[] }, { accessFlags := 25, nameIndex := 280, descriptorIndex := 25, attributes := #[] }, { accessFlags := 25, nameIndex := 282, descriptorIndex := 25, attributes := #[] }, { accessFlags := 25, nameIndex := 284, descriptorIndex := 25, attributes := #[] }, { accessFlags := 25, nameIndex := 286, descriptorIndex := 25, attributes := #[] }, { accessFlags := 25, nameIndex := 288, descriptorIndex := 25, attributes := #[] }, { accessFlags := 25, nameIndex := 290, descriptorIndex := 25, attributes := #[] }, { accessFlags := 25, nameIndex := 292, descriptorIndex := 25, attributes := #[] }, { accessFlags := 26, nameIndex := 108, descriptorIndex := 109, attributes := #[] }, { accessFlags := 25, nameIndex := 294, descriptorIndex := 25, attributes := #[] }])
  fields := #[{ name := "U", type := (.object "jdk/internal/misc/Unsafe"), accessFlags := 24, slot := 0, constantValue := 0 }, { name := "BIG_ENDIAN", type := .boolean, accessFlags := 26, slot := 1, constantValue := 0 }, { name := "LOG2_ARRAY_BOOLEAN_INDEX_SCALE", type := .int, accessFlags := 25, slot := 2, constantValue := 0 }, { name := "LOG2_ARRAY_BYTE_INDEX_SCALE", type := .int, accessFlags := 25, slot := 3, constantValue := 0 }, { name := "LOG2_ARRAY_CHAR_INDEX_SCALE", type := .int, accessFlags := 25, slot := 4, constantValue := 0 }, { name := "LOG2_ARRAY_SHORT_INDEX_SCALE", type := .int, accessFlags := 25, slot := 5, constantValue := 0 }, { name := "LOG2_ARRAY_INT_INDEX_SCALE", type := .int, accessFlags := 25, slot := 6, constantValue := 0 }, { name := "LOG2_ARRAY_LONG_INDEX_SCALE", type := .int, accessFlags := 25, slot := 7, constantValue := 0 }, { name := "LOG2_ARRAY_FLOAT_INDEX_SCALE", type := .int, accessFlags := 25, slot := 8, constantValue := 0 }, { name := "LOG2_ARRAY_DOUBLE_INDEX_SCALE", type := .int, accessFlags := 25, slot := 9, constantValue := 0 }, { name := "LOG2_BYTE_BIT_SIZE", type := .int, accessFlags := 26, slot := 10, constantValue := 0 }, { name := "T_BOOLEAN", type := .int, accessFlags := 25, slot := 11, constantValue := 0 }, { name := "T_CHAR", type := .int, accessFlags := 25, slot := 12, constantValue := 0 }, { name := "T_FLOAT", type := .int, accessFlags := 25, slot := 13, constantValue := 0 }, { name := "T_DOUBLE", type := .int, accessFlags := 25, slot := 14, constantValue := 0 }, { name := "T_BYTE", type := .int, accessFlags := 25, slot := 15, constantValue := 0 }, { name := "T_SHORT", type := .int, accessFlags := 25, slot := 16, constantValue := 0 }, { name := "T_INT", type := .int, accessFlags := 25, slot := 17, constantValue := 0 }, { name := "T_LONG", type := .int, accessFlags := 25, slot := 18, constantValue := 0 }, { name := "JLA", type := (.object "jdk/internal/access/JavaLangAccess"), accessFlags := 26, slot := 19, constantValue := 0 }, { name := "SOFT_MAX_ARRAY_LENGTH", type := .int, accessFlags := 25, slot := 20, constantValue := 0 }]
  methods := #[k16m0, k16m1]
  instanceTypes := #[]
  staticTypes := #[(.object "jdk/internal/misc/Unsafe"), .boolean, .int, .int, .int, .int, .int, .int, .int, .int, .int, .int, .int, .int, .int, .int, .int, .int, .int, (.object "jdk/internal/access/JavaLangAccess"), .int]
  resolved := Array.replicate 378 none
  statics := none }

def pool17 : Array CpInfo := pool [(2, .class_ 4), (1, u "java/lang/Object"), (0, u "<init>"), (0, u "()V"), (7, .class_ 16), (1, u "java/util/Arrays"), (57, .class_ 76), (1, u "java/util/Arrays$NaturalOrder"), (32, u "()Ljava/lang/Object;"), (3, .class_ 115), (1, u "java/util/Arrays$LegacyMergeSort"), (1, u "Z"), (10, .nameAndType 129 109), (0, u "clone"), (9, u "copyOfRange"), (10, .methodref 151 152), (0, .class_ 153), (0, .nameAndType 154 155), (0, u "java/lang/System"), (0, u "arraycopy"), (0, u "(Ljava/lang/Object;ILjava/lang/Object;II)V"), (146, u "copyOf"), (1, .methodref 305 306), (0, .class_ 307), (0, .nameAndType 308 309), (0, u "java/lang/Math"), (0, u "min"), (0, u "(II)I"), (0, .methodref 311 128), (0, .class_ 312), (0, u "[B"), (26, .methodref 14 340), (0, .nameAndType 341 342), (0, u "copyOfRangeByte"), (0, u "([BII)[B"), (0, .methodref 14 344), (0, .nameAndType 345 346), (0, u "checkLength"), (0, u "(II)V"), (28, .class_ 376), (0, u "java/util/Arrays$ArrayList"), (68, u "$assertionsDisabled"), (269, u "MIN_ARRAY_SORT_GRAN"), (0, u "I"), (2, u "INSERTIONSORT_THRESHOLD"), (149, u "([BI)[B"), (105, .class_ 976), (0, u "java/util/Arrays$ArrayItr")] 52

def k17m0 : Method := { name := "<init>", desc := "()V", sig := { parameters := [], returnType := none }, accessFlags := 2, code := none }
def k17c1 : Code := { maxStack := 6, maxLocals := 3, code := jdk_65_method_121_code, exceptionTable := #[], attributes := #[] }
def k17m1 : Method := { name := "copyOf", desc := "([BI)[B", sig := { parameters := [(.array .byte), .int], returnType := some (.array .byte) }, accessFlags := 9, code := some k17c1 }
def k17c2 : Code := { maxStack := 4, maxLocals := 2, code := jdk_65_method_131_code, exceptionTable := #[], attributes := #[] }
def k17m2 : Method := { name := "checkLength", desc := "(II)V", sig := { parameters := [.int, .int], returnType := none }, accessFlags := 10, code := some k17c2 }
def k17c3 : Code := { maxStack := 3, maxLocals := 3, code := jdk_65_method_132_code, exceptionTable := #[], attributes := #[] }
def k17m3 : Method := { name := "copyOfRange", desc := "([BII)[B", sig := { parameters := [(.array .byte), .int, .int], returnType := some (.array .byte) }, accessFlags := 9, code := some k17c3 }
def k17c4 : Code := { maxStack := 6, maxLocals := 5, code := jdk_65_method_133_code, exceptionTable := #[], attributes := #[] }
def k17m4 : Method := { name := "copyOfRangeByte", desc := "([BII)[B", sig := { parameters := [(.array .byte), .int, .int], returnType := some (.array .byte) }, accessFlags := 10, code := some k17c4 }
/-- java/util/Arrays -/
def k17 : Class := { plain "java/util/Arrays" (some 0) with
  accessFlags := 49
  interfaces := #[]
  cf := some (fileOf pool17 14 #[.nestMembers #[975, 375, 113, 74]] #[{ accessFlags := 2, nameIndex := 5, descriptorIndex := 6, attributes := #[] }, { accessFlags := 9, nameIndex := 302, descriptorIndex := 869, attributes := #[] }, { accessFlags := 10, nameIndex := 345, descriptorIndex := 346, attributes := #[] }, { accessFlags := 9, nameIndex := 139, descriptorIndex := 342, attributes := #[] }, { accessFlags := 10, nameIndex := 341, descriptorIndex := 342, attributes := #[] }] 49 2 #[] #[{ accessFlags := 26, nameIndex := 715, descriptorIndex := 716, attributes := #[] }, { accessFlags := 26, nameIndex := 719, descriptorIndex := 716, attributes := #[] }, { accessFlags := 4120, nameIndex := 445, descriptorIndex := 117, attributes := #[] }])
  fields := #[{ name := "MIN_ARRAY_SORT_GRAN", type := .int, accessFlags := 26, slot := 0, constantValue := 0 }, { name := "INSERTIONSORT_THRESHOLD", type := .int, accessFlags := 26, slot := 1, constantValue := 0 }, { name := "$assertionsDisabled", type := .boolean, accessFlags := 4120, slot := 2, constantValue := 0 }]
  methods := #[k17m0, k17m1, k17m2, k17m3, k17m4]
  instanceTypes := #[]
  staticTypes := #[.int, .int, .boolean]
  resolved := Array.replicate 1029 none
  statics := none }

def pool18 : Array CpInfo := pool [(2, .class_ 4), (1, u "java/lang/Object"), (0, u "<init>"), (0, u "()V"), (1, .class_ 10), (1, u "java/lang/Number"), (2, .class_ 14), (0, u "java/io/Serializable"), (0, u "serialVersionUID"), (0, u "J")] 20

def k18m0 : Method := { name := "<init>", desc := "()V", sig := { parameters := [], returnType := none }, accessFlags := 1, code := none }
/-- java/lang/Number -/
def k18 : Class := { plain "java/lang/Number" (some 0) with
  accessFlags := 1057
  interfaces := #[6]
  cf := some (fileOf pool18 8 #[] #[{ accessFlags := 1, nameIndex := 5, descriptorIndex := 6, attributes := #[] }] 1057 2 #[13] #[{ accessFlags := 26, nameIndex := 15, descriptorIndex := 16, attributes := #[] }])
  fields := #[{ name := "serialVersionUID", type := .long, accessFlags := 26, slot := 0, constantValue := 0 }]
  methods := #[k18m0]
  instanceTypes := #[]
  staticTypes := #[.long]
  resolved := Array.replicate 37 none
  statics := none }

def pool19 : Array CpInfo := pool [(1, .class_ 2), (0, u "java/lang/Long"), (15, .class_ 20), (1, u "java/lang/Integer"), (32, .long 10), (47, u "(J)I"), (18, u "stringSize"), (2, u "getChars"), (0, u "(JI[B)I"), (4, .long 18446744071562067968), (1, .long 100), (1, .fieldref 18 134), (0, .nameAndType 135 136), (0, u "DigitOnes"), (0, u "[B"), (0, .fieldref 18 138), (0, .nameAndType 139 136), (0, u "DigitTens"), (0, .long 18446744073709551606), (94, .class_ 237), (1, u "java/lang/Long$LongCache"), (33, .class_ 272), (0, u "java/lang/Number"), (2, u "value"), (0, u "J"), (84, u "TYPE"), (0, u "Ljava/lang/Class;"), (0, .class_ 364), (0, u "java/lang/Comparable"), (0, .class_ 366), (0, u "java/lang/constant/Constable"), (0, .class_ 368), (0, u "java/lang/constant/ConstantDesc"), (0, u "MIN_VALUE"), (1, u "MAX_VALUE"), (4, u "SIZE"), (0, u "I"), (1, u "BYTES"), (1, u "serialVersionUID")] 142

def k19c0 : Code := { maxStack := 4, maxLocals := 11, code := jdk_35_method_14_code, exceptionTable := #[], attributes := #[] }
def k19m0 : Method := { name := "getChars", desc := "(JI[B)I", sig := { parameters := [.long, .int, (.array .byte)], returnType := some .int }, accessFlags := 8, code := some k19c0 }
def k19c1 : Code := { maxStack := 4, maxLocals := 6, code := jdk_35_method_15_code, exceptionTable := #[], attributes := #[] }
def k19m1 : Method := { name := "stringSize", desc := "(J)I", sig := { parameters := [.long], returnType := some .int }, accessFlags := 8, code := some k19c1 }
/-- java/lang/Long -/
def k19 : Class := { plain "java/lang/Long" (some 18) with
  accessFlags := 49
  interfaces := #[7, 10, 11]
  cf := some (fileOf pool19 1 #[.nestMembers #[235]] #[{ accessFlags := 8, nameIndex := 123, descriptorIndex := 124, attributes := #[] }, { accessFlags := 8, nameIndex := 120, descriptorIndex := 101, attributes := #[] }] 49 271 #[363, 365, 367] #[{ accessFlags := 25, nameIndex := 369, descriptorIndex := 276, attributes := #[] }, { accessFlags := 25, nameIndex := 371, descriptorIndex := 276, attributes := #[] }, { accessFlags := 25, nameIndex := 361, descriptorIndex := 362, attributes := #[] }, { accessFlags := 18, nameIndex := 275, descriptorIndex := 276, attributes := #[] }, { accessFlags := 25, nameIndex := 376, descriptorIndex := 377, attributes := #[] }, { accessFlags := 25, nameIndex := 379, descriptorIndex := 377, attributes := #[] }, { accessFlags := 26, nameIndex := 381, descriptorIndex := 276, attributes := #[] }])
  fields := #[{ name := "MIN_VALUE", type := .long, accessFlags := 25, slot := 0, constantValue := 0 }, { name := "MAX_VALUE", type := .long, accessFlags := 25, slot := 1, constantValue := 0 }, { name := "TYPE", type := (.object "java/lang/Class"), accessFlags := 25, slot := 2, constantValue := 0 }, { name := "value", type := .long, accessFlags := 18, slot := 0, constantValue := 0 }, { name := "SIZE", type := .int, accessFlags := 25, slot := 3, constantValue := 0 }, { name := "BYTES", type := .int, accessFlags := 25, slot := 4, constantValue := 0 }, { name := "serialVersionUID", type := .long, accessFlags := 26, slot := 5, constantValue := 0 }]
  methods := #[k19m0, k19m1]
  instanceTypes := #[.long]
  staticTypes := #[.long, .long, (.object "java/lang/Class"), .int, .int, .long]
  resolved := Array.replicate 524 none
  statics := none }

def pool20 : Array CpInfo := pool [(1, .class_ 2), (0, u "java/lang/Integer"), (16, u "digits"), (0, u "[C"), (64, u "DigitOnes"), (0, u "[B"), (2, u "DigitTens"), (99, .class_ 190), (0, u "java/lang/Integer$IntegerCache"), (3, u "I"), (8, .class_ 204), (0, u "java/lang/Number"), (2, u "value"), (94, u "TYPE"), (0, u "Ljava/lang/Class;"), (0, .class_ 305), (0, u "java/lang/Comparable"), (0, .class_ 307), (0, u "java/lang/constant/Constable"), (0, .class_ 309), (0, u "java/lang/constant/ConstantDesc"), (0, u "MIN_VALUE"), (1, u "MAX_VALUE"), (3, u "SIZE"), (1, u "BYTES"), (1, u "serialVersionUID"), (0, u "J")] 131

/-- java/lang/Integer -/
def k20 : Class := { plain "java/lang/Integer" (some 18) with
  accessFlags := 49
  interfaces := #[7, 10, 11]
  cf := some (fileOf pool20 1 #[.nestMembers #[189]] #[] 49 203 #[304, 306, 308] #[{ accessFlags := 25, nameIndex := 310, descriptorIndex := 194, attributes := #[] }, { accessFlags := 25, nameIndex := 312, descriptorIndex := 194, attributes := #[] }, { accessFlags := 25, nameIndex := 302, descriptorIndex := 303, attributes := #[] }, { accessFlags := 24, nameIndex := 19, descriptorIndex := 20, attributes := #[] }, { accessFlags := 24, nameIndex := 89, descriptorIndex := 86, attributes := #[] }, { accessFlags := 24, nameIndex := 85, descriptorIndex := 86, attributes := #[] }, { accessFlags := 18, nameIndex := 207, descriptorIndex := 194, attributes := #[] }, { accessFlags := 25, nameIndex := 316, descriptorIndex := 194, attributes := #[] }, { accessFlags := 25, nameIndex := 318, descriptorIndex := 194, attributes := #[] }, { accessFlags := 26, nameIndex := 320, descriptorIndex := 321, attributes := #[] }])
  fields := #[{ name := "MIN_VALUE", type := .int, accessFlags := 25, slot := 0, constantValue := 0 }, { name := "MAX_VALUE", type := .int, accessFlags := 25, slot := 1, constantValue := 0 }, { name := "TYPE", type := (.object "java/lang/Class"), accessFlags := 25, slot := 2, constantValue := 0 }, { name := "digits", type := (.array .char), accessFlags := 24, slot := 3, constantValue := 0 }, { name := "DigitTens", type := (.array .byte), accessFlags := 24, slot := 4, constantValue := 0 }, { name := "DigitOnes", type := (.array .byte), accessFlags := 24, slot := 5, constantValue := 0 }, { name := "value", type := .int, accessFlags := 18, slot := 0, constantValue := 0 }, { name := "SIZE", type := .int, accessFlags := 25, slot := 6, constantValue := 0 }, { name := "BYTES", type := .int, accessFlags := 25, slot := 7, constantValue := 0 }, { name := "serialVersionUID", type := .long, accessFlags := 26, slot := 8, constantValue := 0 }]
  methods := #[]
  instanceTypes := #[.int]
  staticTypes := #[.int, .int, (.object "java/lang/Class"), (.array .char), (.array .byte), (.array .byte), .int, .int, .long]
  resolved := Array.replicate 453 none
  statics := some 2 }

def pool21 : Array CpInfo := pool [(1, .class_ 2), (0, u "java/lang/Cloneable"), (0, .class_ 4), (0, u "java/lang/Object")] 2

/-- java/lang/Cloneable -/
def k21 : Class := { plain "java/lang/Cloneable" (some 0) with
  accessFlags := 1537
  interfaces := #[]
  cf := some (fileOf pool21 1 #[] #[] 1537 3 #[] #[])
  fields := #[]
  methods := #[]
  instanceTypes := #[]
  staticTypes := #[]
  resolved := Array.replicate 7 none
  statics := none }

/-- the primitive byte -/
def k22 : Class := { plain "byte" none with kind := .primitive 'B', accessFlags := 0x411 }
/-- [B -/
def k23 : Class := { plain "[B" (some 0) with kind := .array 22 .byte, interfaces := #[21, 6], accessFlags := 1041 }

/-- the primitive int -/
def k24 : Class := { plain "int" none with kind := .primitive 'I', accessFlags := 0x411 }
/-- [I -/
def k25 : Class := { plain "[I" (some 0) with kind := .array 24 .int, interfaces := #[21, 6], accessFlags := 1041 }

def heap : Heap := #[{ cls := 12, slots := #[.long 0, .int 1, .null, .int 0, .null, .int 0, .int 0], vm := .statics 12 },
  { cls := 14, slots := #[.null, .null, .null], vm := .statics 14 },
  { cls := 20, slots := #[.int 0, .int 0, .null, .null, .ref 4, .ref 3, .int 0, .int 0, .long 0], vm := .statics 20 },
  { cls := 23, slots := #[.int 48, .int 49, .int 50, .int 51, .int 52, .int 53, .int 54, .int 55, .int 56, .int 57, .int 48, .int 49, .int 50, .int 51, .int 52, .int 53, .int 54, .int 55, .int 56, .int 57, .int 48, .int 49, .int 50, .int 51, .int 52, .int 53, .int 54, .int 55, .int 56, .int 57, .int 48, .int 49, .int 50, .int 51, .int 52, .int 53, .int 54, .int 55, .int 56, .int 57, .int 48, .int 49, .int 50, .int 51, .int 52, .int 53, .int 54, .int 55, .int 56, .int 57, .int 48, .int 49, .int 50, .int 51, .int 52, .int 53, .int 54, .int 55, .int 56, .int 57, .int 48, .int 49, .int 50, .int 51, .int 52, .int 53, .int 54, .int 55, .int 56, .int 57, .int 48, .int 49, .int 50, .int 51, .int 52, .int 53, .int 54, .int 55, .int 56, .int 57, .int 48, .int 49, .int 50, .int 51, .int 52, .int 53, .int 54, .int 55, .int 56, .int 57, .int 48, .int 49, .int 50, .int 51, .int 52, .int 53, .int 54, .int 55, .int 56, .int 57], vm := .none },
  { cls := 23, slots := #[.int 48, .int 48, .int 48, .int 48, .int 48, .int 48, .int 48, .int 48, .int 48, .int 48, .int 49, .int 49, .int 49, .int 49, .int 49, .int 49, .int 49, .int 49, .int 49, .int 49, .int 50, .int 50, .int 50, .int 50, .int 50, .int 50, .int 50, .int 50, .int 50, .int 50, .int 51, .int 51, .int 51, .int 51, .int 51, .int 51, .int 51, .int 51, .int 51, .int 51, .int 52, .int 52, .int 52, .int 52, .int 52, .int 52, .int 52, .int 52, .int 52, .int 52, .int 53, .int 53, .int 53, .int 53, .int 53, .int 53, .int 53, .int 53, .int 53, .int 53, .int 54, .int 54, .int 54, .int 54, .int 54, .int 54, .int 54, .int 54, .int 54, .int 54, .int 55, .int 55, .int 55, .int 55, .int 55, .int 55, .int 55, .int 55, .int 55, .int 55, .int 56, .int 56, .int 56, .int 56, .int 56, .int 56, .int 56, .int 56, .int 56, .int 56, .int 57, .int 57, .int 57, .int 57, .int 57, .int 57, .int 57, .int 57, .int 57, .int 57], vm := .none }]
def classes : Array Class := #[k0, k1, k2, k3, k4, k5, k6, k7, k8, k9, k10, k11, k12, k13, k14, k15, k16, k17, k18, k19, k20, k21, k22, k23, k24, k25]
def interned : List (Array UInt16 × Addr) := []
def slotsUsed : Nat := 219
def theMethod : MethodId := ⟨1, 1⟩
def args0 : Array Value := #[.long 5, .int 6, .long 7]
def aboutOver (below : List Frame) : State where
  vm := { classes := classes, interned := interned.toArray }
  heap := heap
  slotsUsed := slotsUsed
  threads := #[{ frames := .invoking theMethod args0 :: below }]
def below0 : List Frame := [.native { method := ⟨0, 0⟩, args := #[] }]
def about1 : State := aboutOver below0
def p0 : Program := .bare "" "" ""
def e0 : Env := launch0.env 0 0 0
theorem w_frames : about1.frames = Frame.invoking theMethod args0 :: below0 := rfl
set_option maxRecDepth 65536 in
theorem w_args : argsFit about1.vm theMethod args0 = true := by decide +kernel
set_option maxRecDepth 65536 in
theorem w_heap : heapFits about1 = true := by decide +kernel
set_option maxRecDepth 65536 in
theorem w_runnable : about1.curStatus? = some .runnable := by decide +kernel
set_option maxRecDepth 65536 in
theorem w_alone : about1.alone = true := by decide +kernel
set_option maxRecDepth 65536 in
theorem w_named : about1.methodNamed? x = some theMethod := by decide +kernel
set_option maxRecDepth 65536 in
theorem w_hears : about1.hears theMethod below0 = true := by decide +kernel
set_option maxRecDepth 65536 in
theorem w_ripe : about1.ripe theMethod args0 below0 = true := by decide +kernel
theorem w_running : about1.status = .running := rfl
set_option maxRecDepth 65536 in
theorem w_room : about1.hasRoom e0.platform room_1 = true :=
  launch0.hasRoom_least _ room_1 (by decide +kernel) (by decide +kernel) (by decide +kernel) (by decide +kernel) (by decide +kernel) (by decide +kernel)
theorem allAtoms_all (ts : List Jvm.Cond) (a : Array Jvm.Value) (st : Jvm.State) : (allAtoms ts).before a st = ts.all (fun c => c.before a st) := by
  induction ts with
  | nil => rfl
  | cons c t ih =>
    show (Jvm.Cond.and c (allAtoms t)).before a st = _
    rw [Jvm.Cond.before_and, ih, List.all_cons]
def words1 : List Jvm.Cond := Jvm.Cond.code x code maxLocals ret :: tables_1
/-- a 'code' word, met by the world's own term for the bytes: nothing is compared byte by byte -/
theorem code_word {y : MethodName} {bytes : ByteArray} {mx : Nat} {rt : Option FieldType} {a : Array Value} {s : State} {m : MethodId} {meth : Method} {c : Code} (h1 : s.methodNamed? y = some m) (h2 : s.vm.method? m = some meth) (h3 : meth.code = some c) (h4 : c.code = bytes)
    (h5 : (c.maxLocals == mx && c.exceptionTable.isEmpty && decide (c.maxStack ≤ mostOperands) && decide (meth.sig.returnType = rt) && !meth.locks && decide (parseMethodDescriptor y.desc = some meth.sig)) = true) : (Jvm.Cond.code y bytes mx rt).before a s = true := by
  simp only [Bool.and_eq_true, beq_iff_eq, Bool.not_eq_true', decide_eq_true_eq] at h5
  obtain ⟨⟨⟨⟨⟨g1, g2⟩, g3⟩, g4⟩, g5⟩, g6⟩ := h5
  simp [Cond.before, Cond.holds, Cond.value, h1, h2, h3, h4, g1, g2, g3, g4, g5, g6]
def isCode : Jvm.Cond → Bool
  | .code _ _ _ _ => true
  | _ => false
theorem all_split {L : List Jvm.Cond} {P : Jvm.Cond → Bool} (h1 : L.all (fun c => isCode c || P c) = true) (h2 : ∀ c ∈ L.filter isCode, P c = true) : L.all P = true := by
  refine List.all_eq_true.mpr fun c hc => ?_
  have h := List.all_eq_true.mp h1 c hc
  rcases Bool.eq_false_or_eq_true (isCode c) with hi | hi
  · exact h2 c (List.mem_filter.mpr ⟨hc, hi⟩)
  · simpa [hi] using h
set_option maxRecDepth 65536 in
theorem w_c0 : (Jvm.Cond.code x code maxLocals ret).before args0 about1 = true := code_word (m := ⟨1, 1⟩) (meth := k1m1) (c := k1c1) (by decide +kernel) rfl rfl rfl (by decide +kernel)
set_option maxRecDepth 65536 in
theorem w_c1 : (Jvm.Cond.code ({ cls := "com/example/half_message_commit/halfmessagecommit/protocol/JsonWriter", name := "<init>", desc := "(J)V" } : Jvm.MethodName) prog_24_method_2_code (3 : Nat) (Option.none : Option Jvm.ClassFile.FieldType)).before args0 about1 = true := code_word (m := ⟨2, 1⟩) (meth := k2m1) (c := k2c1) (by decide +kernel) rfl rfl rfl (by decide +kernel)
set_option maxRecDepth 65536 in
theorem w_c2 : (Jvm.Cond.code ({ cls := "java/lang/Object", name := "<init>", desc := "()V" } : Jvm.MethodName) object_method_1_code (1 : Nat) (Option.none : Option Jvm.ClassFile.FieldType)).before args0 about1 = true := code_word (m := ⟨0, 0⟩) (meth := k0m0) (c := k0c0) (by decide +kernel) rfl rfl rfl (by decide +kernel)
set_option maxRecDepth 65536 in
theorem w_c3 : (Jvm.Cond.code ({ cls := "java/lang/Math", name := "min", desc := "(JJ)J" } : Jvm.MethodName) jdk_29_method_70_code (4 : Nat) (Option.some Jvm.ClassFile.FieldType.long)).before args0 about1 = true := code_word (m := ⟨9, 3⟩) (meth := k9m3) (c := k9c3) (by decide +kernel) rfl rfl rfl (by decide +kernel)
set_option maxRecDepth 65536 in
theorem w_c4 : (Jvm.Cond.code ({ cls := "java/lang/StringBuilder", name := "<init>", desc := "(I)V" } : Jvm.MethodName) jdk_67_method_2_code (2 : Nat) (Option.none : Option Jvm.ClassFile.FieldType)).before args0 about1 = true := code_word (m := ⟨8, 1⟩) (meth := k8m1) (c := k8c1) (by decide +kernel) rfl rfl rfl (by decide +kernel)
set_option maxRecDepth 65536 in
theorem w_c5 : (Jvm.Cond.code ({ cls := "java/lang/AbstractStringBuilder", name := "<init>", desc := "(I)V" } : Jvm.MethodName) jdk_68_method_2_code (2 : Nat) (Option.none : Option Jvm.ClassFile.FieldType)).before args0 about1 = true := code_word (m := ⟨5, 1⟩) (meth := k5m1) (c := k5c1) (by decide +kernel) rfl rfl rfl (by decide +kernel)
set_option maxRecDepth 65536 in
theorem w_c6 : (Jvm.Cond.code ({ cls := "com/example/half_message_commit/halfmessagecommit/protocol/JsonWriter", name := "beginObject", desc := "()V" } : Jvm.MethodName) prog_24_method_3_code (1 : Nat) (Option.none : Option Jvm.ClassFile.FieldType)).before args0 about1 = true := code_word (m := ⟨2, 2⟩) (meth := k2m2) (c := k2c2) (by decide +kernel) rfl rfl rfl (by decide +kernel)
set_option maxRecDepth 65536 in
theorem w_c7 : (Jvm.Cond.code ({ cls := "com/example/half_message_commit/halfmessagecommit/protocol/JsonWriter", name := "separate", desc := "()V" } : Jvm.MethodName) prog_24_method_12_code (2 : Nat) (Option.none : Option Jvm.ClassFile.FieldType)).before args0 about1 = true := code_word (m := ⟨2, 11⟩) (meth := k2m11) (c := k2c11) (by decide +kernel) rfl rfl rfl (by decide +kernel)
set_option maxRecDepth 65536 in
theorem w_c8 : (Jvm.Cond.code ({ cls := "java/lang/StringBuilder", name := "length", desc := "()I" } : Jvm.MethodName) jdk_67_method_93_code (1 : Nat) (Option.some Jvm.ClassFile.FieldType.int)).before args0 about1 = true := code_word (m := ⟨8, 9⟩) (meth := k8m9) (c := k8c9) (by decide +kernel) rfl rfl rfl (by decide +kernel)
set_option maxRecDepth 65536 in
theorem w_c9 : (Jvm.Cond.code ({ cls := "java/lang/AbstractStringBuilder", name := "length", desc := "()I" } : Jvm.MethodName) jdk_68_method_6_code (1 : Nat) (Option.some Jvm.ClassFile.FieldType.int)).before args0 about1 = true := code_word (m := ⟨5, 2⟩) (meth := k5m2) (c := k5c2) (by decide +kernel) rfl rfl rfl (by decide +kernel)
set_option maxRecDepth 65536 in
theorem w_c10 : (Jvm.Cond.code ({ cls := "java/lang/StringBuilder", name := "append", desc := "(C)Ljava/lang/StringBuilder;" } : Jvm.MethodName) jdk_67_method_14_code (2 : Nat) (Option.some (Jvm.ClassFile.FieldType.object "java/lang/StringBuilder"))).before args0 about1 = true := code_word (m := ⟨8, 5⟩) (meth := k8m5) (c := k8c5) (by decide +kernel) rfl rfl rfl (by decide +kernel)
set_option maxRecDepth 65536 in
theorem w_c11 : (Jvm.Cond.code ({ cls := "java/lang/AbstractStringBuilder", name := "append", desc := "(C)Ljava/lang/AbstractStringBuilder;" } : Jvm.MethodName) jdk_68_method_31_code (2 : Nat) (Option.some (Jvm.ClassFile.FieldType.object "java/lang/AbstractStringBuilder"))).before args0 about1 = true := code_word (m := ⟨5, 9⟩) (meth := k5m9) (c := k5c9) (by decide +kernel) rfl rfl rfl (by decide +kernel)
set_option maxRecDepth 65536 in
theorem w_c12 : (Jvm.Cond.code ({ cls := "java/lang/AbstractStringBuilder", name := "ensureCapacityInternal", desc := "(I)V" } : Jvm.MethodName) jdk_68_method_9_code (3 : Nat) (Option.none : Option Jvm.ClassFile.FieldType)).before args0 about1 = true := code_word (m := ⟨5, 3⟩) (meth := k5m3) (c := k5c3) (by decide +kernel) rfl rfl rfl (by decide +kernel)
set_option maxRecDepth 65536 in
theorem w_c13 : (Jvm.Cond.code ({ cls := "java/lang/AbstractStringBuilder", name := "isLatin1", desc := "()Z" } : Jvm.MethodName) jdk_68_method_68_code (1 : Nat) (Option.some Jvm.ClassFile.FieldType.boolean)).before args0 about1 = true := code_word (m := ⟨5, 12⟩) (meth := k5m12) (c := k5c12) (by decide +kernel) rfl rfl rfl (by decide +kernel)
set_option maxRecDepth 65536 in
theorem w_c14 : (Jvm.Cond.code ({ cls := "java/lang/StringLatin1", name := "canEncode", desc := "(C)Z" } : Jvm.MethodName) jdk_43_method_3_code (1 : Nat) (Option.some Jvm.ClassFile.FieldType.boolean)).before args0 about1 = true := code_word (m := ⟨13, 2⟩) (meth := k13m2) (c := k13c2) (by decide +kernel) rfl rfl rfl (by decide +kernel)
set_option maxRecDepth 65536 in
theorem w_c15 : (Jvm.Cond.code ({ cls := "com/example/half_message_commit/halfmessagecommit/protocol/JsonWriter", name := "beginArray", desc := "(Ljava/lang/String;)V" } : Jvm.MethodName) prog_24_method_5_code (2 : Nat) (Option.none : Option Jvm.ClassFile.FieldType)).before args0 about1 = true := code_word (m := ⟨2, 4⟩) (meth := k2m4) (c := k2c4) (by decide +kernel) rfl rfl rfl (by decide +kernel)
set_option maxRecDepth 65536 in
theorem w_c16 : (Jvm.Cond.code ({ cls := "com/example/half_message_commit/halfmessagecommit/protocol/JsonWriter", name := "name", desc := "(Ljava/lang/String;)V" } : Jvm.MethodName) prog_24_method_11_code (2 : Nat) (Option.none : Option Jvm.ClassFile.FieldType)).before args0 about1 = true := code_word (m := ⟨2, 10⟩) (meth := k2m10) (c := k2c10) (by decide +kernel) rfl rfl rfl (by decide +kernel)
set_option maxRecDepth 65536 in
theorem w_c17 : (Jvm.Cond.code ({ cls := "java/lang/StringBuilder", name := "charAt", desc := "(I)C" } : Jvm.MethodName) jdk_67_method_88_code (2 : Nat) (Option.some Jvm.ClassFile.FieldType.char)).before args0 about1 = true := code_word (m := ⟨8, 8⟩) (meth := k8m8) (c := k8c8) (by decide +kernel) rfl rfl rfl (by decide +kernel)
set_option maxRecDepth 65536 in
theorem w_c18 : (Jvm.Cond.code ({ cls := "java/lang/AbstractStringBuilder", name := "charAt", desc := "(I)C" } : Jvm.MethodName) jdk_68_method_14_code (5 : Nat) (Option.some Jvm.ClassFile.FieldType.char)).before args0 about1 = true := code_word (m := ⟨5, 5⟩) (meth := k5m5) (c := k5c5) (by decide +kernel) rfl rfl rfl (by decide +kernel)
set_option maxRecDepth 65536 in
theorem w_c19 : (Jvm.Cond.code ({ cls := "java/lang/Math", name := "min", desc := "(II)I" } : Jvm.MethodName) jdk_29_method_69_code (2 : Nat) (Option.some Jvm.ClassFile.FieldType.int)).before args0 about1 = true := code_word (m := ⟨9, 2⟩) (meth := k9m2) (c := k9c2) (by decide +kernel) rfl rfl rfl (by decide +kernel)
set_option maxRecDepth 65536 in
theorem w_c20 : (Jvm.Cond.code ({ cls := "java/lang/String", name := "checkIndex", desc := "(II)V" } : Jvm.MethodName) jdk_42_method_155_code (2 : Nat) (Option.none : Option Jvm.ClassFile.FieldType)).before args0 about1 = true := code_word (m := ⟨12, 10⟩) (meth := k12m10) (c := k12c10) (by decide +kernel) rfl rfl rfl (by decide +kernel)
set_option maxRecDepth 65536 in
theorem w_c21 : (Jvm.Cond.code ({ cls := "jdk/internal/util/Preconditions", name := "checkIndex", desc := "(IILjava/util/function/BiFunction;)I" } : Jvm.MethodName) jdk_41_method_11_code (3 : Nat) (Option.some Jvm.ClassFile.FieldType.int)).before args0 about1 = true := code_word (m := ⟨14, 1⟩) (meth := k14m1) (c := k14c1) (by decide +kernel) rfl rfl rfl (by decide +kernel)
set_option maxRecDepth 65536 in
theorem w_c22 : (Jvm.Cond.code ({ cls := "com/example/half_message_commit/halfmessagecommit/protocol/JsonWriter", name := "string", desc := "(Ljava/lang/String;)V" } : Jvm.MethodName) prog_24_method_13_code (5 : Nat) (Option.none : Option Jvm.ClassFile.FieldType)).before args0 about1 = true := code_word (m := ⟨2, 12⟩) (meth := k2m12) (c := k2c12) (by decide +kernel) rfl rfl rfl (by decide +kernel)
set_option maxRecDepth 65536 in
theorem w_c23 : (Jvm.Cond.code ({ cls := "java/lang/String", name := "length", desc := "()I" } : Jvm.MethodName) jdk_42_method_54_code (1 : Nat) (Option.some Jvm.ClassFile.FieldType.int)).before args0 about1 = true := code_word (m := ⟨12, 2⟩) (meth := k12m2) (c := k12c2) (by decide +kernel) rfl rfl rfl (by decide +kernel)
set_option maxRecDepth 65536 in
theorem w_c24 : (Jvm.Cond.code ({ cls := "java/lang/String", name := "coder", desc := "()B" } : Jvm.MethodName) jdk_42_method_152_code (1 : Nat) (Option.some Jvm.ClassFile.FieldType.byte)).before args0 about1 = true := code_word (m := ⟨12, 7⟩) (meth := k12m7) (c := k12c7) (by decide +kernel) rfl rfl rfl (by decide +kernel)
set_option maxRecDepth 65536 in
theorem w_c25 : (Jvm.Cond.code ({ cls := "java/lang/String", name := "charAt", desc := "(I)C" } : Jvm.MethodName) jdk_42_method_56_code (2 : Nat) (Option.some Jvm.ClassFile.FieldType.char)).before args0 about1 = true := code_word (m := ⟨12, 3⟩) (meth := k12m3) (c := k12c3) (by decide +kernel) rfl rfl rfl (by decide +kernel)
set_option maxRecDepth 65536 in
theorem w_c26 : (Jvm.Cond.code ({ cls := "java/lang/String", name := "isLatin1", desc := "()Z" } : Jvm.MethodName) jdk_42_method_154_code (1 : Nat) (Option.some Jvm.ClassFile.FieldType.boolean)).before args0 about1 = true := code_word (m := ⟨12, 9⟩) (meth := k12m9) (c := k12c9) (by decide +kernel) rfl rfl rfl (by decide +kernel)
set_option maxRecDepth 65536 in
theorem w_c27 : (Jvm.Cond.code ({ cls := "java/lang/StringLatin1", name := "charAt", desc := "([BI)C" } : Jvm.MethodName) jdk_43_method_2_code (2 : Nat) (Option.some Jvm.ClassFile.FieldType.char)).before args0 about1 = true := code_word (m := ⟨13, 1⟩) (meth := k13m1) (c := k13c1) (by decide +kernel) rfl rfl rfl (by decide +kernel)
set_option maxRecDepth 65536 in
theorem w_c28 : (Jvm.Cond.code ({ cls := "java/lang/StringBuilder", name := "append", desc := "(Ljava/lang/CharSequence;II)Ljava/lang/StringBuilder;" } : Jvm.MethodName) jdk_67_method_10_code (4 : Nat) (Option.some (Jvm.ClassFile.FieldType.object "java/lang/StringBuilder"))).before args0 about1 = true := code_word (m := ⟨8, 3⟩) (meth := k8m3) (c := k8c3) (by decide +kernel) rfl rfl rfl (by decide +kernel)
set_option maxRecDepth 65536 in
theorem w_c29 : (Jvm.Cond.code ({ cls := "java/lang/AbstractStringBuilder", name := "append", desc := "(Ljava/lang/CharSequence;II)Ljava/lang/AbstractStringBuilder;" } : Jvm.MethodName) jdk_68_method_27_code (5 : Nat) (Option.some (Jvm.ClassFile.FieldType.object "java/lang/AbstractStringBuilder"))).before args0 about1 = true := code_word (m := ⟨5, 7⟩) (meth := k5m7) (c := k5c7) (by decide +kernel) rfl rfl rfl (by decide +kernel)
set_option maxRecDepth 65536 in
theorem w_c30 : (Jvm.Cond.code ({ cls := "jdk/internal/util/Preconditions", name := "checkFromToIndex", desc := "(IIILjava/util/function/BiFunction;)I" } : Jvm.MethodName) jdk_41_method_12_code (4 : Nat) (Option.some Jvm.ClassFile.FieldType.int)).before args0 about1 = true := code_word (m := ⟨14, 2⟩) (meth := k14m2) (c := k14c2) (by decide +kernel) rfl rfl rfl (by decide +kernel)
set_option maxRecDepth 65536 in
theorem w_c31 : (Jvm.Cond.code ({ cls := "java/lang/AbstractStringBuilder", name := "appendChars", desc := "(Ljava/lang/String;II)V" } : Jvm.MethodName) jdk_68_method_75_code (8 : Nat) (Option.none : Option Jvm.ClassFile.FieldType)).before args0 about1 = true := code_word (m := ⟨5, 15⟩) (meth := k5m15) (c := k5c15) (by decide +kernel) rfl rfl rfl (by decide +kernel)
set_option maxRecDepth 65536 in
theorem w_c32 : (Jvm.Cond.code ({ cls := "java/lang/String", name := "value", desc := "()[B" } : Jvm.MethodName) jdk_42_method_153_code (1 : Nat) (Option.some (Jvm.ClassFile.FieldType.array Jvm.ClassFile.FieldType.byte))).before args0 about1 = true := code_word (m := ⟨12, 8⟩) (meth := k12m8) (c := k12c8) (by decide +kernel) rfl rfl rfl (by decide +kernel)
set_option maxRecDepth 65536 in
theorem w_c33 : (Jvm.Cond.code ({ cls := "java/lang/AbstractStringBuilder", name := "newCapacity", desc := "(I)I" } : Jvm.MethodName) jdk_68_method_10_code (6 : Nat) (Option.some Jvm.ClassFile.FieldType.int)).before args0 about1 = true := code_word (m := ⟨5, 4⟩) (meth := k5m4) (c := k5c4) (by decide +kernel) rfl rfl rfl (by decide +kernel)
set_option maxRecDepth 65536 in
theorem w_c34 : (Jvm.Cond.code ({ cls := "jdk/internal/util/ArraysSupport", name := "newLength", desc := "(III)I" } : Jvm.MethodName) jdk_48_method_27_code (4 : Nat) (Option.some Jvm.ClassFile.FieldType.int)).before args0 about1 = true := code_word (m := ⟨16, 1⟩) (meth := k16m1) (c := k16c1) (by decide +kernel) rfl rfl rfl (by decide +kernel)
set_option maxRecDepth 65536 in
theorem w_c35 : (Jvm.Cond.code ({ cls := "java/lang/Math", name := "max", desc := "(II)I" } : Jvm.MethodName) jdk_29_method_65_code (2 : Nat) (Option.some Jvm.ClassFile.FieldType.int)).before args0 about1 = true := code_word (m := ⟨9, 1⟩) (meth := k9m1) (c := k9c1) (by decide +kernel) rfl rfl rfl (by decide +kernel)
set_option maxRecDepth 65536 in
theorem w_c36 : (Jvm.Cond.code ({ cls := "java/util/Arrays", name := "copyOf", desc := "([BI)[B" } : Jvm.MethodName) jdk_65_method_121_code (3 : Nat) (Option.some (Jvm.ClassFile.FieldType.array Jvm.ClassFile.FieldType.byte))).before args0 about1 = true := code_word (m := ⟨17, 1⟩) (meth := k17m1) (c := k17c1) (by decide +kernel) rfl rfl rfl (by decide +kernel)
set_option maxRecDepth 65536 in
theorem w_c37 : (Jvm.Cond.code ({ cls := "com/example/half_message_commit/halfmessagecommit/protocol/JsonWriter", name := "text", desc := "()Ljava/lang/String;" } : Jvm.MethodName) prog_24_method_10_code (1 : Nat) (Option.some (Jvm.ClassFile.FieldType.object "java/lang/String"))).before args0 about1 = true := code_word (m := ⟨2, 9⟩) (meth := k2m9) (c := k2c9) (by decide +kernel) rfl rfl rfl (by decide +kernel)
set_option maxRecDepth 65536 in
theorem w_c38 : (Jvm.Cond.code ({ cls := "java/lang/StringBuilder", name := "toString", desc := "()Ljava/lang/String;" } : Jvm.MethodName) jdk_67_method_42_code (1 : Nat) (Option.some (Jvm.ClassFile.FieldType.object "java/lang/String"))).before args0 about1 = true := code_word (m := ⟨8, 7⟩) (meth := k8m7) (c := k8c7) (by decide +kernel) rfl rfl rfl (by decide +kernel)
set_option maxRecDepth 65536 in
theorem w_c39 : (Jvm.Cond.code ({ cls := "java/lang/String", name := "<init>", desc := "(Ljava/lang/StringBuilder;)V" } : Jvm.MethodName) jdk_42_method_53_code (2 : Nat) (Option.none : Option Jvm.ClassFile.FieldType)).before args0 about1 = true := code_word (m := ⟨12, 1⟩) (meth := k12m1) (c := k12c1) (by decide +kernel) rfl rfl rfl (by decide +kernel)
set_option maxRecDepth 65536 in
theorem w_c40 : (Jvm.Cond.code ({ cls := "java/lang/String", name := "<init>", desc := "(Ljava/lang/AbstractStringBuilder;Ljava/lang/Void;)V" } : Jvm.MethodName) jdk_42_method_150_code (5 : Nat) (Option.none : Option Jvm.ClassFile.FieldType)).before args0 about1 = true := code_word (m := ⟨12, 6⟩) (meth := k12m6) (c := k12c6) (by decide +kernel) rfl rfl rfl (by decide +kernel)
set_option maxRecDepth 65536 in
theorem w_c41 : (Jvm.Cond.code ({ cls := "java/lang/AbstractStringBuilder", name := "getValue", desc := "()[B" } : Jvm.MethodName) jdk_68_method_64_code (1 : Nat) (Option.some (Jvm.ClassFile.FieldType.array Jvm.ClassFile.FieldType.byte))).before args0 about1 = true := code_word (m := ⟨5, 11⟩) (meth := k5m11) (c := k5c11) (by decide +kernel) rfl rfl rfl (by decide +kernel)
set_option maxRecDepth 65536 in
theorem w_c42 : (Jvm.Cond.code ({ cls := "java/util/Arrays", name := "copyOfRange", desc := "([BII)[B" } : Jvm.MethodName) jdk_65_method_132_code (3 : Nat) (Option.some (Jvm.ClassFile.FieldType.array Jvm.ClassFile.FieldType.byte))).before args0 about1 = true := code_word (m := ⟨17, 3⟩) (meth := k17m3) (c := k17c3) (by decide +kernel) rfl rfl rfl (by decide +kernel)
set_option maxRecDepth 65536 in
theorem w_c43 : (Jvm.Cond.code ({ cls := "java/util/Arrays", name := "copyOfRangeByte", desc := "([BII)[B" } : Jvm.MethodName) jdk_65_method_133_code (5 : Nat) (Option.some (Jvm.ClassFile.FieldType.array Jvm.ClassFile.FieldType.byte))).before args0 about1 = true := code_word (m := ⟨17, 4⟩) (meth := k17m4) (c := k17c4) (by decide +kernel) rfl rfl rfl (by decide +kernel)
set_option maxRecDepth 65536 in
theorem w_c44 : (Jvm.Cond.code ({ cls := "java/util/Arrays", name := "checkLength", desc := "(II)V" } : Jvm.MethodName) jdk_65_method_131_code (2 : Nat) (Option.none : Option Jvm.ClassFile.FieldType)).before args0 about1 = true := code_word (m := ⟨17, 2⟩) (meth := k17m2) (c := k17c2) (by decide +kernel) rfl rfl rfl (by decide +kernel)
set_option maxRecDepth 65536 in
theorem w_c45 : (Jvm.Cond.code ({ cls := "java/lang/String", name := "equals", desc := "(Ljava/lang/Object;)Z" } : Jvm.MethodName) jdk_42_method_66_code (3 : Nat) (Option.some Jvm.ClassFile.FieldType.boolean)).before args0 about1 = true := code_word (m := ⟨12, 4⟩) (meth := k12m4) (c := k12c4) (by decide +kernel) rfl rfl rfl (by decide +kernel)
set_option maxRecDepth 65536 in
theorem w_c46 : (Jvm.Cond.code ({ cls := "java/lang/StringLatin1", name := "equals", desc := "([B[B)Z" } : Jvm.MethodName) jdk_43_method_13_code (3 : Nat) (Option.some Jvm.ClassFile.FieldType.boolean)).before args0 about1 = true := code_word (m := ⟨13, 3⟩) (meth := k13m3) (c := k13c3) (by decide +kernel) rfl rfl rfl (by decide +kernel)
set_option maxRecDepth 65536 in
theorem w_c47 : (Jvm.Cond.code ({ cls := "com/example/half_message_commit/halfmessagecommit/protocol/JsonWriter", name := "member", desc := "(Ljava/lang/String;Ljava/lang/String;)V" } : Jvm.MethodName) prog_24_method_7_code (3 : Nat) (Option.none : Option Jvm.ClassFile.FieldType)).before args0 about1 = true := code_word (m := ⟨2, 6⟩) (meth := k2m6) (c := k2c6) (by decide +kernel) rfl rfl rfl (by decide +kernel)
set_option maxRecDepth 65536 in
theorem w_c48 : (Jvm.Cond.code ({ cls := "java/lang/StringBuilder", name := "append", desc := "(Ljava/lang/String;)Ljava/lang/StringBuilder;" } : Jvm.MethodName) jdk_67_method_7_code (2 : Nat) (Option.some (Jvm.ClassFile.FieldType.object "java/lang/StringBuilder"))).before args0 about1 = true := code_word (m := ⟨8, 2⟩) (meth := k8m2) (c := k8c2) (by decide +kernel) rfl rfl rfl (by decide +kernel)
set_option maxRecDepth 65536 in
theorem w_c49 : (Jvm.Cond.code ({ cls := "java/lang/AbstractStringBuilder", name := "append", desc := "(Ljava/lang/String;)Ljava/lang/AbstractStringBuilder;" } : Jvm.MethodName) jdk_68_method_22_code (3 : Nat) (Option.some (Jvm.ClassFile.FieldType.object "java/lang/AbstractStringBuilder"))).before args0 about1 = true := code_word (m := ⟨5, 6⟩) (meth := k5m6) (c := k5c6) (by decide +kernel) rfl rfl rfl (by decide +kernel)
set_option maxRecDepth 65536 in
theorem w_c50 : (Jvm.Cond.code ({ cls := "java/lang/AbstractStringBuilder", name := "putStringAt", desc := "(ILjava/lang/String;)V" } : Jvm.MethodName) jdk_68_method_73_code (3 : Nat) (Option.none : Option Jvm.ClassFile.FieldType)).before args0 about1 = true := code_word (m := ⟨5, 14⟩) (meth := k5m14) (c := k5c14) (by decide +kernel) rfl rfl rfl (by decide +kernel)
set_option maxRecDepth 65536 in
theorem w_c51 : (Jvm.Cond.code ({ cls := "java/lang/AbstractStringBuilder", name := "inflateIfNeededFor", desc := "(Ljava/lang/String;)V" } : Jvm.MethodName) jdk_68_method_71_code (2 : Nat) (Option.none : Option Jvm.ClassFile.FieldType)).before args0 about1 = true := code_word (m := ⟨5, 13⟩) (meth := k5m13) (c := k5c13) (by decide +kernel) rfl rfl rfl (by decide +kernel)
set_option maxRecDepth 65536 in
theorem w_c52 : (Jvm.Cond.code ({ cls := "java/lang/String", name := "getBytes", desc := "([BIB)V" } : Jvm.MethodName) jdk_42_method_147_code (4 : Nat) (Option.none : Option Jvm.ClassFile.FieldType)).before args0 about1 = true := code_word (m := ⟨12, 5⟩) (meth := k12m5) (c := k12c5) (by decide +kernel) rfl rfl rfl (by decide +kernel)
set_option maxRecDepth 65536 in
theorem w_c53 : (Jvm.Cond.code ({ cls := "com/example/half_message_commit/halfmessagecommit/protocol/JsonWriter", name := "endObject", desc := "()V" } : Jvm.MethodName) prog_24_method_4_code (1 : Nat) (Option.none : Option Jvm.ClassFile.FieldType)).before args0 about1 = true := code_word (m := ⟨2, 3⟩) (meth := k2m3) (c := k2c3) (by decide +kernel) rfl rfl rfl (by decide +kernel)
set_option maxRecDepth 65536 in
theorem w_c54 : (Jvm.Cond.code ({ cls := "com/example/half_message_commit/halfmessagecommit/protocol/JsonWriter", name := "member", desc := "(Ljava/lang/String;Z)V" } : Jvm.MethodName) prog_24_method_9_code (3 : Nat) (Option.none : Option Jvm.ClassFile.FieldType)).before args0 about1 = true := code_word (m := ⟨2, 8⟩) (meth := k2m8) (c := k2c8) (by decide +kernel) rfl rfl rfl (by decide +kernel)
set_option maxRecDepth 65536 in
theorem w_c55 : (Jvm.Cond.code ({ cls := "java/lang/StringBuilder", name := "append", desc := "(Z)Ljava/lang/StringBuilder;" } : Jvm.MethodName) jdk_67_method_13_code (2 : Nat) (Option.some (Jvm.ClassFile.FieldType.object "java/lang/StringBuilder"))).before args0 about1 = true := code_word (m := ⟨8, 4⟩) (meth := k8m4) (c := k8c4) (by decide +kernel) rfl rfl rfl (by decide +kernel)
set_option maxRecDepth 65536 in
theorem w_c56 : (Jvm.Cond.code ({ cls := "java/lang/AbstractStringBuilder", name := "append", desc := "(Z)Ljava/lang/AbstractStringBuilder;" } : Jvm.MethodName) jdk_68_method_30_code (4 : Nat) (Option.some (Jvm.ClassFile.FieldType.object "java/lang/AbstractStringBuilder"))).before args0 about1 = true := code_word (m := ⟨5, 8⟩) (meth := k5m8) (c := k5c8) (by decide +kernel) rfl rfl rfl (by decide +kernel)
set_option maxRecDepth 65536 in
theorem w_c57 : (Jvm.Cond.code ({ cls := "com/example/half_message_commit/halfmessagecommit/protocol/JsonWriter", name := "endArray", desc := "()V" } : Jvm.MethodName) prog_24_method_6_code (1 : Nat) (Option.none : Option Jvm.ClassFile.FieldType)).before args0 about1 = true := code_word (m := ⟨2, 5⟩) (meth := k2m5) (c := k2c5) (by decide +kernel) rfl rfl rfl (by decide +kernel)
set_option maxRecDepth 65536 in
theorem w_c58 : (Jvm.Cond.code ({ cls := "com/example/half_message_commit/halfmessagecommit/protocol/JsonWriter", name := "member", desc := "(Ljava/lang/String;J)V" } : Jvm.MethodName) prog_24_method_8_code (4 : Nat) (Option.none : Option Jvm.ClassFile.FieldType)).before args0 about1 = true := code_word (m := ⟨2, 7⟩) (meth := k2m7) (c := k2c7) (by decide +kernel) rfl rfl rfl (by decide +kernel)
set_option maxRecDepth 65536 in
theorem w_c59 : (Jvm.Cond.code ({ cls := "java/lang/StringBuilder", name := "append", desc := "(J)Ljava/lang/StringBuilder;" } : Jvm.MethodName) jdk_67_method_16_code (3 : Nat) (Option.some (Jvm.ClassFile.FieldType.object "java/lang/StringBuilder"))).before args0 about1 = true := code_word (m := ⟨8, 6⟩) (meth := k8m6) (c := k8c6) (by decide +kernel) rfl rfl rfl (by decide +kernel)
set_option maxRecDepth 65536 in
theorem w_c60 : (Jvm.Cond.code ({ cls := "java/lang/AbstractStringBuilder", name := "append", desc := "(J)Ljava/lang/AbstractStringBuilder;" } : Jvm.MethodName) jdk_68_method_33_code (5 : Nat) (Option.some (Jvm.ClassFile.FieldType.object "java/lang/AbstractStringBuilder"))).before args0 about1 = true := code_word (m := ⟨5, 10⟩) (meth := k5m10) (c := k5c10) (by decide +kernel) rfl rfl rfl (by decide +kernel)
set_option maxRecDepth 65536 in
theorem w_c61 : (Jvm.Cond.code ({ cls := "java/lang/Long", name := "stringSize", desc := "(J)I" } : Jvm.MethodName) jdk_35_method_15_code (6 : Nat) (Option.some Jvm.ClassFile.FieldType.int)).before args0 about1 = true := code_word (m := ⟨19, 1⟩) (meth := k19m1) (c := k19c1) (by decide +kernel) rfl rfl rfl (by decide +kernel)
set_option maxRecDepth 65536 in
theorem w_c62 : (Jvm.Cond.code ({ cls := "java/lang/Long", name := "getChars", desc := "(JI[B)I" } : Jvm.MethodName) jdk_35_method_14_code (11 : Nat) (Option.some Jvm.ClassFile.FieldType.int)).before args0 about1 = true := code_word (m := ⟨19, 0⟩) (meth := k19m0) (c := k19c0) (by decide +kernel) rfl rfl rfl (by decide +kernel)
def codes1 : List Jvm.Cond := [Jvm.Cond.code x code maxLocals ret, Jvm.Cond.code ({ cls := "com/example/half_message_commit/halfmessagecommit/protocol/JsonWriter", name := "<init>", desc := "(J)V" } : Jvm.MethodName) prog_24_method_2_code (3 : Nat) (Option.none : Option Jvm.ClassFile.FieldType), Jvm.Cond.code ({ cls := "java/lang/Object", name := "<init>", desc := "()V" } : Jvm.MethodName) object_method_1_code (1 : Nat) (Option.none : Option Jvm.ClassFile.FieldType), Jvm.Cond.code ({ cls := "java/lang/Math", name := "min", desc := "(JJ)J" } : Jvm.MethodName) jdk_29_method_70_code (4 : Nat) (Option.some Jvm.ClassFile.FieldType.long), Jvm.Cond.code ({ cls := "java/lang/StringBuilder", name := "<init>", desc := "(I)V" } : Jvm.MethodName) jdk_67_method_2_code (2 : Nat) (Option.none : Option Jvm.ClassFile.FieldType), Jvm.Cond.code ({ cls := "java/lang/AbstractStringBuilder", name := "<init>", desc := "(I)V" } : Jvm.MethodName) jdk_68_method_2_code (2 : Nat) (Option.none : Option Jvm.ClassFile.FieldType), Jvm.Cond.code ({ cls := "com/example/half_message_commit/halfmessagecommit/protocol/JsonWriter", name := "beginObject", desc := "()V" } : Jvm.MethodName) prog_24_method_3_code (1 : Nat) (Option.none : Option Jvm.ClassFile.FieldType), Jvm.Cond.code ({ cls := "com/example/half_message_commit/halfmessagecommit/protocol/JsonWriter", name := "separate", desc := "()V" } : Jvm.MethodName) prog_24_method_12_code (2 : Nat) (Option.none : Option Jvm.ClassFile.FieldType), Jvm.Cond.code ({ cls := "java/lang/StringBuilder", name := "length", desc := "()I" } : Jvm.MethodName) jdk_67_method_93_code (1 : Nat) (Option.some Jvm.ClassFile.FieldType.int), Jvm.Cond.code ({ cls := "java/lang/AbstractStringBuilder", name := "length", desc := "()I" } : Jvm.MethodName) jdk_68_method_6_code (1 : Nat) (Option.some Jvm.ClassFile.FieldType.int), Jvm.Cond.code ({ cls := "java/lang/StringBuilder", name := "append", desc := "(C)Ljava/lang/StringBuilder;" } : Jvm.MethodName) jdk_67_method_14_code (2 : Nat) (Option.some (Jvm.ClassFile.FieldType.object "java/lang/StringBuilder")), Jvm.Cond.code ({ cls := "java/lang/AbstractStringBuilder", name := "append", desc := "(C)Ljava/lang/AbstractStringBuilder;" } : Jvm.MethodName) jdk_68_method_31_code (2 : Nat) (Option.some (Jvm.ClassFile.FieldType.object "java/lang/AbstractStringBuilder")), Jvm.Cond.code ({ cls := "java/lang/AbstractStringBuilder", name := "ensureCapacityInternal", desc := "(I)V" } : Jvm.MethodName) jdk_68_method_9_code (3 : Nat) (Option.none : Option Jvm.ClassFile.FieldType), Jvm.Cond.code ({ cls := "java/lang/AbstractStringBuilder", name := "isLatin1", desc := "()Z" } : Jvm.MethodName) jdk_68_method_68_code (1 : Nat) (Option.some Jvm.ClassFile.FieldType.boolean), Jvm.Cond.code ({ cls := "java/lang/StringLatin1", name := "canEncode", desc := "(C)Z" } : Jvm.MethodName) jdk_43_method_3_code (1 : Nat) (Option.some Jvm.ClassFile.FieldType.boolean), Jvm.Cond.code ({ cls := "com/example/half_message_commit/halfmessagecommit/protocol/JsonWriter", name := "beginArray", desc := "(Ljava/lang/String;)V" } : Jvm.MethodName) prog_24_method_5_code (2 : Nat) (Option.none : Option Jvm.ClassFile.FieldType), Jvm.Cond.code ({ cls := "com/example/half_message_commit/halfmessagecommit/protocol/JsonWriter", name := "name", desc := "(Ljava/lang/String;)V" } : Jvm.MethodName) prog_24_method_11_code (2 : Nat) (Option.none : Option Jvm.ClassFile.FieldType), Jvm.Cond.code ({ cls := "java/lang/StringBuilder", name := "charAt", desc := "(I)C" } : Jvm.MethodName) jdk_67_method_88_code (2 : Nat) (Option.some Jvm.ClassFile.FieldType.char), Jvm.Cond.code ({ cls := "java/lang/AbstractStringBuilder", name := "charAt", desc := "(I)C" } : Jvm.MethodName) jdk_68_method_14_code (5 : Nat) (Option.some Jvm.ClassFile.FieldType.char), Jvm.Cond.code ({ cls := "java/lang/Math", name := "min", desc := "(II)I" } : Jvm.MethodName) jdk_29_method_69_code (2 : Nat) (Option.some Jvm.ClassFile.FieldType.int), Jvm.Cond.code ({ cls := "java/lang/String", name := "checkIndex", desc := "(II)V" } : Jvm.MethodName) jdk_42_method_155_code (2 : Nat) (Option.none : Option Jvm.ClassFile.FieldType), Jvm.Cond.code ({ cls := "jdk/internal/util/Preconditions", name := "checkIndex", desc := "(IILjava/util/function/BiFunction;)I" } : Jvm.MethodName) jdk_41_method_11_code (3 : Nat) (Option.some Jvm.ClassFile.FieldType.int), Jvm.Cond.code ({ cls := "com/example/half_message_commit/halfmessagecommit/protocol/JsonWriter", name := "string", desc := "(Ljava/lang/String;)V" } : Jvm.MethodName) prog_24_method_13_code (5 : Nat) (Option.none : Option Jvm.ClassFile.FieldType), Jvm.Cond.code ({ cls := "java/lang/String", name := "length", desc := "()I" } : Jvm.MethodName) jdk_42_method_54_code (1 : Nat) (Option.some Jvm.ClassFile.FieldType.int), Jvm.Cond.code ({ cls := "java/lang/String", name := "coder", desc := "()B" } : Jvm.MethodName) jdk_42_method_152_code (1 : Nat) (Option.some Jvm.ClassFile.FieldType.byte), Jvm.Cond.code ({ cls := "java/lang/String", name := "charAt", desc := "(I)C" } : Jvm.MethodName) jdk_42_method_56_code (2 : Nat) (Option.some Jvm.ClassFile.FieldType.char), Jvm.Cond.code ({ cls := "java/lang/String", name := "isLatin1", desc := "()Z" } : Jvm.MethodName) jdk_42_method_154_code (1 : Nat) (Option.some Jvm.ClassFile.FieldType.boolean), Jvm.Cond.code ({ cls := "java/lang/StringLatin1", name := "charAt", desc := "([BI)C" } : Jvm.MethodName) jdk_43_method_2_code (2 : Nat) (Option.some Jvm.ClassFile.FieldType.char), Jvm.Cond.code ({ cls := "java/lang/StringBuilder", name := "append", desc := "(Ljava/lang/CharSequence;II)Ljava/lang/StringBuilder;" } : Jvm.MethodName) jdk_67_method_10_code (4 : Nat) (Option.some (Jvm.ClassFile.FieldType.object "java/lang/StringBuilder")), Jvm.Cond.code ({ cls := "java/lang/AbstractStringBuilder", name := "append", desc := "(Ljava/lang/CharSequence;II)Ljava/lang/AbstractStringBuilder;" } : Jvm.MethodName) jdk_68_method_27_code (5 : Nat) (Option.some (Jvm.ClassFile.FieldType.object "java/lang/AbstractStringBuilder")), Jvm.Cond.code ({ cls := "jdk/internal/util/Preconditions", name := "checkFromToIndex", desc := "(IIILjava/util/function/BiFunction;)I" } : Jvm.MethodName) jdk_41_method_12_code (4 : Nat) (Option.some Jvm.ClassFile.FieldType.int), Jvm.Cond.code ({ cls := "java/lang/AbstractStringBuilder", name := "appendChars", desc := "(Ljava/lang/String;II)V" } : Jvm.MethodName) jdk_68_method_75_code (8 : Nat) (Option.none : Option Jvm.ClassFile.FieldType), Jvm.Cond.code ({ cls := "java/lang/String", name := "value", desc := "()[B" } : Jvm.MethodName) jdk_42_method_153_code (1 : Nat) (Option.some (Jvm.ClassFile.FieldType.array Jvm.ClassFile.FieldType.byte)), Jvm.Cond.code ({ cls := "java/lang/AbstractStringBuilder", name := "newCapacity", desc := "(I)I" } : Jvm.MethodName) jdk_68_method_10_code (6 : Nat) (Option.some Jvm.ClassFile.FieldType.int), Jvm.Cond.code ({ cls := "jdk/internal/util/ArraysSupport", name := "newLength", desc := "(III)I" } : Jvm.MethodName) jdk_48_method_27_code (4 : Nat) (Option.some Jvm.ClassFile.FieldType.int), Jvm.Cond.code ({ cls := "java/lang/Math", name := "max", desc := "(II)I" } : Jvm.MethodName) jdk_29_method_65_code (2 : Nat) (Option.some Jvm.ClassFile.FieldType.int), Jvm.Cond.code ({ cls := "java/util/Arrays", name := "copyOf", desc := "([BI)[B" } : Jvm.MethodName) jdk_65_method_121_code (3 : Nat) (Option.some (Jvm.ClassFile.FieldType.array Jvm.ClassFile.FieldType.byte)), Jvm.Cond.code ({ cls := "com/example/half_message_commit/halfmessagecommit/protocol/JsonWriter", name := "text", desc := "()Ljava/lang/String;" } : Jvm.MethodName) prog_24_method_10_code (1 : Nat) (Option.some (Jvm.ClassFile.FieldType.object "java/lang/String")), Jvm.Cond.code ({ cls := "java/lang/StringBuilder", name := "toString", desc := "()Ljava/lang/String;" } : Jvm.MethodName) jdk_67_method_42_code (1 : Nat) (Option.some (Jvm.ClassFile.FieldType.object "java/lang/String")), Jvm.Cond.code ({ cls := "java/lang/String", name := "<init>", desc := "(Ljava/lang/StringBuilder;)V" } : Jvm.MethodName) jdk_42_method_53_code (2 : Nat) (Option.none : Option Jvm.ClassFile.FieldType), Jvm.Cond.code ({ cls := "java/lang/String", name := "<init>", desc := "(Ljava/lang/AbstractStringBuilder;Ljava/lang/Void;)V" } : Jvm.MethodName) jdk_42_method_150_code (5 : Nat) (Option.none : Option Jvm.ClassFile.FieldType), Jvm.Cond.code ({ cls := "java/lang/AbstractStringBuilder", name := "getValue", desc := "()[B" } : Jvm.MethodName) jdk_68_method_64_code (1 : Nat) (Option.some (Jvm.ClassFile.FieldType.array Jvm.ClassFile.FieldType.byte)), Jvm.Cond.code ({ cls := "java/util/Arrays", name := "copyOfRange", desc := "([BII)[B" } : Jvm.MethodName) jdk_65_method_132_code (3 : Nat) (Option.some (Jvm.ClassFile.FieldType.array Jvm.ClassFile.FieldType.byte)), Jvm.Cond.code ({ cls := "java/util/Arrays", name := "copyOfRangeByte", desc := "([BII)[B" } : Jvm.MethodName) jdk_65_method_133_code (5 : Nat) (Option.some (Jvm.ClassFile.FieldType.array Jvm.ClassFile.FieldType.byte)), Jvm.Cond.code ({ cls := "java/util/Arrays", name := "checkLength", desc := "(II)V" } : Jvm.MethodName) jdk_65_method_131_code (2 : Nat) (Option.none : Option Jvm.ClassFile.FieldType), Jvm.Cond.code ({ cls := "java/lang/String", name := "equals", desc := "(Ljava/lang/Object;)Z" } : Jvm.MethodName) jdk_42_method_66_code (3 : Nat) (Option.some Jvm.ClassFile.FieldType.boolean), Jvm.Cond.code ({ cls := "java/lang/StringLatin1", name := "equals", desc := "([B[B)Z" } : Jvm.MethodName) jdk_43_method_13_code (3 : Nat) (Option.some Jvm.ClassFile.FieldType.boolean), Jvm.Cond.code ({ cls := "com/example/half_message_commit/halfmessagecommit/protocol/JsonWriter", name := "member", desc := "(Ljava/lang/String;Ljava/lang/String;)V" } : Jvm.MethodName) prog_24_method_7_code (3 : Nat) (Option.none : Option Jvm.ClassFile.FieldType), Jvm.Cond.code ({ cls := "java/lang/StringBuilder", name := "append", desc := "(Ljava/lang/String;)Ljava/lang/StringBuilder;" } : Jvm.MethodName) jdk_67_method_7_code (2 : Nat) (Option.some (Jvm.ClassFile.FieldType.object "java/lang/StringBuilder")), Jvm.Cond.code ({ cls := "java/lang/AbstractStringBuilder", name := "append", desc := "(Ljava/lang/String;)Ljava/lang/AbstractStringBuilder;" } : Jvm.MethodName) jdk_68_method_22_code (3 : Nat) (Option.some (Jvm.ClassFile.FieldType.object "java/lang/AbstractStringBuilder")), Jvm.Cond.code ({ cls := "java/lang/AbstractStringBuilder", name := "putStringAt", desc := "(ILjava/lang/String;)V" } : Jvm.MethodName) jdk_68_method_73_code (3 : Nat) (Option.none : Option Jvm.ClassFile.FieldType), Jvm.Cond.code ({ cls := "java/lang/AbstractStringBuilder", name := "inflateIfNeededFor", desc := "(Ljava/lang/String;)V" } : Jvm.MethodName) jdk_68_method_71_code (2 : Nat) (Option.none : Option Jvm.ClassFile.FieldType), Jvm.Cond.code ({ cls := "java/lang/String", name := "getBytes", desc := "([BIB)V" } : Jvm.MethodName) jdk_42_method_147_code (4 : Nat) (Option.none : Option Jvm.ClassFile.FieldType), Jvm.Cond.code ({ cls := "com/example/half_message_commit/halfmessagecommit/protocol/JsonWriter", name := "endObject", desc := "()V" } : Jvm.MethodName) prog_24_method_4_code (1 : Nat) (Option.none : Option Jvm.ClassFile.FieldType), Jvm.Cond.code ({ cls := "com/example/half_message_commit/halfmessagecommit/protocol/JsonWriter", name := "member", desc := "(Ljava/lang/String;Z)V" } : Jvm.MethodName) prog_24_method_9_code (3 : Nat) (Option.none : Option Jvm.ClassFile.FieldType), Jvm.Cond.code ({ cls := "java/lang/StringBuilder", name := "append", desc := "(Z)Ljava/lang/StringBuilder;" } : Jvm.MethodName) jdk_67_method_13_code (2 : Nat) (Option.some (Jvm.ClassFile.FieldType.object "java/lang/StringBuilder")), Jvm.Cond.code ({ cls := "java/lang/AbstractStringBuilder", name := "append", desc := "(Z)Ljava/lang/AbstractStringBuilder;" } : Jvm.MethodName) jdk_68_method_30_code (4 : Nat) (Option.some (Jvm.ClassFile.FieldType.object "java/lang/AbstractStringBuilder")), Jvm.Cond.code ({ cls := "com/example/half_message_commit/halfmessagecommit/protocol/JsonWriter", name := "endArray", desc := "()V" } : Jvm.MethodName) prog_24_method_6_code (1 : Nat) (Option.none : Option Jvm.ClassFile.FieldType), Jvm.Cond.code ({ cls := "com/example/half_message_commit/halfmessagecommit/protocol/JsonWriter", name := "member", desc := "(Ljava/lang/String;J)V" } : Jvm.MethodName) prog_24_method_8_code (4 : Nat) (Option.none : Option Jvm.ClassFile.FieldType), Jvm.Cond.code ({ cls := "java/lang/StringBuilder", name := "append", desc := "(J)Ljava/lang/StringBuilder;" } : Jvm.MethodName) jdk_67_method_16_code (3 : Nat) (Option.some (Jvm.ClassFile.FieldType.object "java/lang/StringBuilder")), Jvm.Cond.code ({ cls := "java/lang/AbstractStringBuilder", name := "append", desc := "(J)Ljava/lang/AbstractStringBuilder;" } : Jvm.MethodName) jdk_68_method_33_code (5 : Nat) (Option.some (Jvm.ClassFile.FieldType.object "java/lang/AbstractStringBuilder")), Jvm.Cond.code ({ cls := "java/lang/Long", name := "stringSize", desc := "(J)I" } : Jvm.MethodName) jdk_35_method_15_code (6 : Nat) (Option.some Jvm.ClassFile.FieldType.int), Jvm.Cond.code ({ cls := "java/lang/Long", name := "getChars", desc := "(JI[B)I" } : Jvm.MethodName) jdk_35_method_14_code (11 : Nat) (Option.some Jvm.ClassFile.FieldType.int)]
set_option maxRecDepth 65536 in
theorem codes_eq : words1.filter isCode = codes1 := rfl
theorem w_codes : ∀ c ∈ words1.filter isCode, c.before args0 about1 = true := by
  rw [codes_eq]
  intro c hc
  simp only [codes1, List.mem_cons, List.not_mem_nil, or_false] at hc
  rcases hc with rfl | rfl | rfl | rfl | rfl | rfl | rfl | rfl | rfl | rfl | rfl | rfl | rfl | rfl | rfl | rfl | rfl | rfl | rfl | rfl | rfl | rfl | rfl | rfl | rfl | rfl | rfl | rfl | rfl | rfl | rfl | rfl | rfl | rfl | rfl | rfl | rfl | rfl | rfl | rfl | rfl | rfl | rfl | rfl | rfl | rfl | rfl | rfl | rfl | rfl | rfl | rfl | rfl | rfl | rfl | rfl | rfl | rfl | rfl | rfl | rfl | rfl | rfl
  · exact w_c0
  · exact w_c1
  · exact w_c2
  · exact w_c3
  · exact w_c4
  · exact w_c5
  · exact w_c6
  · exact w_c7
  · exact w_c8
  · exact w_c9
  · exact w_c10
  · exact w_c11
  · exact w_c12
  · exact w_c13
  · exact w_c14
  · exact w_c15
  · exact w_c16
  · exact w_c17
  · exact w_c18
  · exact w_c19
  · exact w_c20
  · exact w_c21
  · exact w_c22
  · exact w_c23
  · exact w_c24
  · exact w_c25
  · exact w_c26
  · exact w_c27
  · exact w_c28
  · exact w_c29
  · exact w_c30
  · exact w_c31
  · exact w_c32
  · exact w_c33
  · exact w_c34
  · exact w_c35
  · exact w_c36
  · exact w_c37
  · exact w_c38
  · exact w_c39
  · exact w_c40
  · exact w_c41
  · exact w_c42
  · exact w_c43
  · exact w_c44
  · exact w_c45
  · exact w_c46
  · exact w_c47
  · exact w_c48
  · exact w_c49
  · exact w_c50
  · exact w_c51
  · exact w_c52
  · exact w_c53
  · exact w_c54
  · exact w_c55
  · exact w_c56
  · exact w_c57
  · exact w_c58
  · exact w_c59
  · exact w_c60
  · exact w_c61
  · exact w_c62
set_option maxRecDepth 65536 in
theorem w_t1 : (words1.take 24).all (fun c => isCode c || c.before args0 about1) = true := by decide +kernel
set_option maxRecDepth 65536 in
theorem w_t2 : ((words1.drop 24).take 24).all (fun c => isCode c || c.before args0 about1) = true := by decide +kernel
set_option maxRecDepth 65536 in
theorem w_t3 : (((words1.drop 24).drop 24).take 24).all (fun c => isCode c || c.before args0 about1) = true := by decide +kernel
set_option maxRecDepth 65536 in
theorem w_t4 : ((((words1.drop 24).drop 24).drop 24).take 24).all (fun c => isCode c || c.before args0 about1) = true := by decide +kernel
set_option maxRecDepth 65536 in
theorem w_t5 : (((((words1.drop 24).drop 24).drop 24).drop 24).take 24).all (fun c => isCode c || c.before args0 about1) = true := by decide +kernel
set_option maxRecDepth 65536 in
theorem w_t6 : ((((((words1.drop 24).drop 24).drop 24).drop 24).drop 24).take 24).all (fun c => isCode c || c.before args0 about1) = true := by decide +kernel
set_option maxRecDepth 65536 in
theorem w_t7 : (((((((words1.drop 24).drop 24).drop 24).drop 24).drop 24).drop 24).take 24).all (fun c => isCode c || c.before args0 about1) = true := by decide +kernel
set_option maxRecDepth 65536 in
theorem w_t8 : ((((((((words1.drop 24).drop 24).drop 24).drop 24).drop 24).drop 24).drop 24).take 24).all (fun c => isCode c || c.before args0 about1) = true := by decide +kernel
set_option maxRecDepth 65536 in
theorem w_t9 : (((((((((words1.drop 24).drop 24).drop 24).drop 24).drop 24).drop 24).drop 24).drop 24).take 24).all (fun c => isCode c || c.before args0 about1) = true := by decide +kernel
set_option maxRecDepth 65536 in
theorem w_t10 : ((((((((((words1.drop 24).drop 24).drop 24).drop 24).drop 24).drop 24).drop 24).drop 24).drop 24).take 24).all (fun c => isCode c || c.before args0 about1) = true := by decide +kernel
set_option maxRecDepth 65536 in
theorem w_t11 : (((((((((((words1.drop 24).drop 24).drop 24).drop 24).drop 24).drop 24).drop 24).drop 24).drop 24).drop 24).take 24).all (fun c => isCode c || c.before args0 about1) = true := by decide +kernel
set_option maxRecDepth 65536 in
theorem w_t12 : ((((((((((((words1.drop 24).drop 24).drop 24).drop 24).drop 24).drop 24).drop 24).drop 24).drop 24).drop 24).drop 24).take 24).all (fun c => isCode c || c.before args0 about1) = true := by decide +kernel
set_option maxRecDepth 65536 in
theorem w_t13 : (((((((((((((words1.drop 24).drop 24).drop 24).drop 24).drop 24).drop 24).drop 24).drop 24).drop 24).drop 24).drop 24).drop 24).take 24).all (fun c => isCode c || c.before args0 about1) = true := by decide +kernel
set_option maxRecDepth 65536 in
theorem w_t14 : ((((((((((((((words1.drop 24).drop 24).drop 24).drop 24).drop 24).drop 24).drop 24).drop 24).drop 24).drop 24).drop 24).drop 24).drop 24).take 24).all (fun c => isCode c || c.before args0 about1) = true := by decide +kernel
set_option maxRecDepth 65536 in
theorem w_t15 : ((((((((((((((words1.drop 24).drop 24).drop 24).drop 24).drop 24).drop 24).drop 24).drop 24).drop 24).drop 24).drop 24).drop 24).drop 24).drop 24).all (fun c => isCode c || c.before args0 about1) = true := by decide +kernel
theorem w_tables : (allAtoms (Jvm.Cond.code x code maxLocals ret :: tables_1)).before args0 about1 = true := by
  rw [allAtoms_all]
  show words1.all (fun c => c.before args0 about1) = true
  refine all_split ?_ w_codes
  rw [← List.take_append_drop 24 words1, List.all_append, w_t1, ← List.take_append_drop 24 (words1.drop 24), List.all_append, w_t2, ← List.take_append_drop 24 ((words1.drop 24).drop 24), List.all_append, w_t3, ← List.take_append_drop 24 (((words1.drop 24).drop 24).drop 24), List.all_append, w_t4, ← List.take_append_drop 24 ((((words1.drop 24).drop 24).drop 24).drop 24), List.all_append, w_t5, ← List.take_append_drop 24 (((((words1.drop 24).drop 24).drop 24).drop 24).drop 24), List.all_append, w_t6, ← List.take_append_drop 24 ((((((words1.drop 24).drop 24).drop 24).drop 24).drop 24).drop 24), List.all_append, w_t7, ← List.take_append_drop 24 (((((((words1.drop 24).drop 24).drop 24).drop 24).drop 24).drop 24).drop 24), List.all_append, w_t8, ← List.take_append_drop 24 ((((((((words1.drop 24).drop 24).drop 24).drop 24).drop 24).drop 24).drop 24).drop 24), List.all_append, w_t9, ← List.take_append_drop 24 (((((((((words1.drop 24).drop 24).drop 24).drop 24).drop 24).drop 24).drop 24).drop 24).drop 24), List.all_append, w_t10, ← List.take_append_drop 24 ((((((((((words1.drop 24).drop 24).drop 24).drop 24).drop 24).drop 24).drop 24).drop 24).drop 24).drop 24), List.all_append, w_t11, ← List.take_append_drop 24 (((((((((((words1.drop 24).drop 24).drop 24).drop 24).drop 24).drop 24).drop 24).drop 24).drop 24).drop 24).drop 24), List.all_append, w_t12, ← List.take_append_drop 24 ((((((((((((words1.drop 24).drop 24).drop 24).drop 24).drop 24).drop 24).drop 24).drop 24).drop 24).drop 24).drop 24).drop 24), List.all_append, w_t13, ← List.take_append_drop 24 (((((((((((((words1.drop 24).drop 24).drop 24).drop 24).drop 24).drop 24).drop 24).drop 24).drop 24).drop 24).drop 24).drop 24).drop 24), List.all_append, w_t14, w_t15]
  rfl
set_option maxRecDepth 65536 in
theorem w_rest : rest_1_c.before args0 about1 = true := by decide +kernel
set_option maxRecDepth 65536 in
theorem w_case : (Jvm.Cond.and given_1 narrow_1).before args0 about1 = true := by decide +kernel
set_option maxRecDepth 65536 in
theorem w_consts : constsHeld consts_1 about1 := Jvm.Lit.constsHeldB_iff.mp (by decide +kernel)
theorem w_applies : (headSpec (Jvm.Cond.code x code maxLocals ret :: tables_1) room_1).applies x e0.platform about1 = true :=
  (Spec.applies_iff w_frames).mpr ⟨w_running, w_runnable, w_alone, w_named, w_hears, w_ripe, w_room, w_tables⟩
theorem atStart : AtStart classFile x code maxLocals ret World_1 tables_1 room_1 Calls_1 rest_1 Pre_1 launch0 p0 e0 about1 theMethod args0 below0 :=
  ⟨lists_1, trivial, launch0.admits_env _ _ _, launch0.least_env, fairChoices_fair.cas, fairChoices_fair.clock, w_frames, w_args, w_heap, w_applies, ⟨w_consts, trivial⟩, w_rest, w_case⟩
end start1
theorem witness_1 : WitnessClaimed_1 := ⟨start1.p0, start1.e0, start1.about1, start1.theMethod, start1.args0, start1.below0, start1.atStart⟩
end Jvm.Pilot.@@N@@
