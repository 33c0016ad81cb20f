import JvmDerived
import JvmDerived.Pilot.@@N@@Statement
import JvmDerived.Pilot.@@N@@Code
set_option linter.unusedVariables false
set_option linter.unusedSimpArgs false
namespace Jvm.OwnK
open Sem ClassFile Op Lib Jvm.Stand Jvm.Free Jvm.LawKit Jvm.RoadKit
/-! a walk's surroundings: program, launch, environment, room, state at the call, method, arguments, frames below, the method's record and code -/
abbrev Cx : Type := Program × Launch × Env × Room × State × MethodId × Array Value × List Frame × Method × Code × State × List (String × Nat)
abbrev Cx.p (Γ : Cx) : Program := Γ.1
abbrev Cx.l (Γ : Cx) : Launch := Γ.2.1
abbrev Cx.e (Γ : Cx) : Env := Γ.2.2.1
abbrev Cx.R (Γ : Cx) : Room := Γ.2.2.2.1
abbrev Cx.s (Γ : Cx) : State := Γ.2.2.2.2.1
abbrev Cx.m (Γ : Cx) : MethodId := Γ.2.2.2.2.2.1
abbrev Cx.args (Γ : Cx) : Array Value := Γ.2.2.2.2.2.2.1
abbrev Cx.below (Γ : Cx) : List Frame := Γ.2.2.2.2.2.2.2.1
abbrev Cx.meth (Γ : Cx) : Method := Γ.2.2.2.2.2.2.2.2.1
abbrev Cx.c (Γ : Cx) : Code := Γ.2.2.2.2.2.2.2.2.2.1
abbrev Cx.Z (Γ : Cx) : State := Γ.2.2.2.2.2.2.2.2.2.2.1
abbrev Cx.EL (Γ : Cx) : List (String × Nat) := Γ.2.2.2.2.2.2.2.2.2.2.2
/-- the booked constants stand since the start, and the addresses of sf are none of theirs -/
def Hd (Γ : Cx) (vm : Vm) (h : Heap) (sf : List Addr) : Prop := CHr Γ.Z Γ.EL Γ.s.vm Γ.s.heap vm h ∧ ∀ x ∈ sf, x < h.size ∧ Safe Γ.Z Γ.EL vm h x
section HdS
variable {Γ : Cx} {vm : Vm} {h h' : Heap} {sf : List Addr}
theorem Hd.more (H : Hd Γ vm h sf) (E : Ext h h') : Hd Γ vm h' sf := ⟨H.1.trans (CHr.ext E H.1.1), fun x hx => ⟨Nat.lt_of_lt_of_le (H.2 x hx).1 E.1, (H.2 x hx).2.ext E H.1.1⟩⟩
theorem Hd.new (H : Hd Γ vm h sf) (E : Ext h h') (lt : h.size < h'.size) : Hd Γ vm h' (h.size :: sf) := ⟨(H.more E).1, fun x hx => by
  rcases List.mem_cons.mp hx with rfl | hx
  · exact ⟨lt, (Safe.new (Nat.le_refl _)).ext E H.1.1⟩
  · exact (H.more E).2 x hx⟩
theorem Hd.wr {a : Addr} {sl : Nat} {v : Value} (H : Hd Γ vm h sf) (W : Wr h h' a sl v) (ms : a ∈ sf) : Hd Γ vm h' sf := ⟨H.1.trans (CHr.wr W (H.2 a ms).2 H.1.1), fun x hx => ⟨by rw [W.size]; exact (H.2 x hx).1, Safe.wr W (H.2 a ms).2 H.1.1 (H.2 x hx).2⟩⟩
theorem Hd.keep {a : Addr} (H : Hd Γ vm h sf) (K : Keep h h' [a]) (ms : a ∈ sf) : Hd Γ vm h' sf := ⟨H.1.trans (CHr.keep K (fun x hx => by rw [List.mem_singleton.mp hx]; exact (H.2 a ms).2) H.1.1), fun x hx => ⟨Nat.lt_of_lt_of_le (H.2 x hx).1 K.1, (H.2 x hx).2.keep K (fun x hx => by rw [List.mem_singleton.mp hx]; exact (H.2 a ms).2) H.1.1⟩⟩
end HdS
/-- what stays the same all along a walk -/
def Ctx (Γ : Cx) (Z : State) (EL : List (String × Nat)) (own : String) (bytes : ByteArray) (maxl : Nat) (ret : Option FieldType) (nm : String) (rm : Room) (hs : Heap) : Prop :=
  Γ.p.tables.exec = Jvm.exec ∧ Z.Warmed39 Γ.s.vm ∧ Γ.s.vm.findClass own = some Γ.m.cls ∧ Γ.c.code = bytes ∧ Γ.c.maxLocals = maxl ∧ Γ.meth.sig.returnType = ret ∧ Γ.meth.name = nm ∧ Γ.meth.locks = false ∧ Γ.R = rm ∧ Γ.s.heap = hs ∧ Γ.Z = Z ∧ Γ.EL = EL ∧ ∃ a0, EW Z a0 EL
/-- where the walk stands: the state T with the heap h; at most C cells and S slots made; what was written lies in cells made since the law began -/
def W (Γ : Cx) (n0 : Nat) (T : State) (h : Heap) (C S : Nat) (sf : List Addr) : Prop := ∃ locs vm0 k0, Stand Γ.p Γ.l Γ.e Γ.R (Γ.s.setVm vm0) Γ.m Γ.args Γ.below Γ.meth Γ.c T locs C S ∧ T.heap = h ∧ Fr n0 locs ∧ Γ.s.Since vm0 k0 ∧ k0 ≤ h.size ∧ Hd Γ vm0 h sf
/-- from here the run comes to the method's end with what Q says -/
def Go (Γ : Cx) (n0 : Nat) (Q : Option Value → Heap → List Addr → Prop) (T : State) (f : JFrame) : Prop :=
  ∃ s₂ o, Steps Γ.p.tables Γ.e Γ.below (T.setTop f) s₂ ∧ s₂.status = .running ∧ Ended s₂ Γ.below o ∧ ∃ v L, o = .returned v ∧ ((∃ sf', Q v s₂.heap sf' ∧ ∀ x ∈ sf', x < s₂.heap.size ∧ Safe Γ.Z Γ.EL s₂.vm s₂.heap x) ∧ Fr n0 L) ∧ CHr Γ.Z Γ.EL Γ.s.vm Γ.s.heap s₂.vm s₂.heap ∧ ReturnedEndW Γ.s o s₂ L Γ.R.cells Γ.R.slots
/-- a body's contract: called with these arguments at this heap it returns with what Q says -/
def MetW (Z : State) (EL : List (String × Nat)) (sf : List Addr) (y : MethodName) (bytes : ByteArray) (maxl : Nat) (ret : Option FieldType) (ws : List Cond) (rm : Room) (as' : Array Value) (h0 : Heap) (n0 : Nat) (Q : Option Value → Heap → List Addr → Prop) : Prop :=
  ∀ l : Launch, MetFree l y (head1 (Cond.code y bytes maxl ret :: ws) rm) (fun a U => a = as' ∧ Z.Warmed39 U.vm ∧ U.heap = h0 ∧ CHv Z EL U.vm h0 ∧ ∀ x ∈ sf, x < h0.size ∧ Safe Z EL U.vm h0 x) (fun _ _ _ _ _ => True) (fun _ U o U' => ∃ v L, o = .returned v ∧ ((∃ sf', Q v U'.heap sf' ∧ ∀ x ∈ sf', x < U'.heap.size ∧ Safe Z EL U'.vm U'.heap x) ∧ Fr n0 L) ∧ CHr Z EL U.vm U.heap U'.vm U'.heap ∧ ReturnedEndW U o U' L rm.cells rm.slots)
abbrev Met (Z : State) (EL : List (String × Nat)) (sf : List Addr) (y : MethodName) (bytes : ByteArray) (maxl : Nat) (ret : Option FieldType) (rm : Room) (as' : Array Value) (h0 : Heap) (n0 : Nat) (Q : Option Value → Heap → List Addr → Prop) : Prop := MetW Z EL sf y bytes maxl ret [] rm as' h0 n0 Q
section K
variable {Γ : Cx} {Z : State} {EL : List (String × Nat)} {sf : List Addr} {own nm : String} {bytes : ByteArray} {maxl : Nat} {ret : Option FieldType} {rm : Room} {n0 : Nat} {T : State} {h hs0 : Heap} {C S : Nat} {Q : Option Value → Heap → List Addr → Prop} {Ls : Array Slot} {st : List Value} {pc pc' : Nat}
theorem k_body {y : MethodName} {ws : List Cond} {as' : Array Value} {f : MethodId → JFrame} (hew : ∃ a0, EW Z a0 EL) (hx : plainFor y = true) (hf : ∀ m, entryFrame m as' maxl = f m)
    (body : ∀ (Γ : Cx) (T : State), Ctx Γ Z EL y.cls bytes maxl ret y.name rm h → W Γ n0 T h 0 0 sf → Go Γ n0 Q T (f Γ.m)) : MetW Z EL sf y bytes maxl ret ws rm as' h n0 Q := by
  intro l
  refine MetFree.of_bodySF (ret := ret) hx hisR ?_
  intro p e s m args below meth c s₁ Bd hml0 hP hK
  obtain ⟨rfl, hZ, hh, hC, hsf⟩ := hP
  subst hh
  have X0 : Stand p l e rm s m args below meth c s₁ [] 0 0 := Stand.of_body Bd
  have e0 : s₁.heap = s.heap := by rw [Bd.state]; rfl
  have g := body (p, l, e, rm, s, m, args, below, meth, c, Z, EL) s₁ ⟨Bd.exec, hZ, findClass_of_methodNamed Bd.named, Bd.bytes, hml0, Bd.returns, (name_of_methodNamed Bd.named Bd.method).1, Bd.notSynchronized, rfl, rfl, rfl, rfl, hew⟩ ⟨[], s.vm, 0, X0, e0, Fr.nil n0, (State.WarmedH.refl s).since 0, Nat.zero_le _, CHr.refl hC, hsf⟩
  rw [← hf] at g
  exact g
theorem Go.of {T' : State} {f f' : JFrame} (k : ∀ target, Steps Γ.p.tables Γ.e Γ.below (T'.setTop f') target → Steps Γ.p.tables Γ.e Γ.below (T.setTop f) target) (K : Go Γ n0 Q T' f') : Go Γ n0 Q T f := by
  obtain ⟨s₂, o, h1, r⟩ := K
  exact ⟨s₂, o, k _ h1, r⟩
theorem Go.mono {Q' : Option Value → Heap → List Addr → Prop} {f : JFrame} (K : Go Γ n0 Q T f) (q : ∀ v h sf, Q v h sf → Q' v h sf) : Go Γ n0 Q' T f := by
  obtain ⟨s₂, o, h1, h2, h3, v, L, h4, ⟨⟨sf', h5, h5'⟩, h6⟩, h7⟩ := K
  exact ⟨s₂, o, h1, h2, h3, v, L, h4, ⟨⟨sf', q _ _ _ h5, h5'⟩, h6⟩, h7⟩
theorem W.more {C' S' : Nat} (X : W Γ n0 T h C S sf) (hc : C ≤ C') (hs : S ≤ S') : W Γ n0 T h C' S' sf := by
  obtain ⟨L, v, k, X, r⟩ := X; exact ⟨L, v, k, X.more hc hs, r⟩
theorem MetW.mono {y : MethodName} {ws : List Cond} {as' : Array Value} {Q' : Option Value → Heap → List Addr → Prop} (M : MetW Z EL sf y bytes maxl ret ws rm as' h n0 Q) (q : ∀ v h sf, Q v h sf → Q' v h sf) : MetW Z EL sf y bytes maxl ret ws rm as' h n0 Q' := by
  intro l p e h1 h2 h3 s m args below hf happ hP hK
  obtain ⟨n, o, a1, a2, a3, v, L, b1, ⟨⟨sf', b2, b2'⟩, b3⟩, b4⟩ := M l p e h1 h2 h3 s m args below hf happ hP hK
  exact ⟨n, o, a1, a2, a3, v, L, b1, ⟨⟨sf', q _ _ _ b2, b2'⟩, b3⟩, b4⟩
/-! ### returns -/
theorem k_retv (G : Ctx Γ Z EL own bytes maxl ret nm rm hs0) (X : W Γ n0 T h C S sf) (hd : decode bytes pc = .ok (.return_, 1)) (hr : ret = none) (q : Q none h sf) (hC : C ≤ rm.cells) (hS : S ≤ rm.slots) : Go Γ n0 Q T (mkF Γ.m pc Ls []) := by
  obtain ⟨hx, hZ, hown, hby, hml, hret, hnm, hlk, hR, hsH, hzz, hel, hew⟩ := G
  subst hzz hel
  obtain ⟨aw, hew⟩ := hew
  obtain ⟨L, vm0, k0, X, e, N, hSi, hk, HD⟩ := X
  subst e
  have e : T.heap = T.heap := rfl
  have AT := CHv.at X (State.Warmed39.trans hZ hSi.1) hew HD.1.1
  obtain ⟨fs, hr', hrun, hended, hE⟩ := X.leaveW hSi (by rw [e]; exact hk) (v := none) (fun _ => rfl) hlk
  subst hr
  refine ⟨_, _, ?_, hrun, hended, none, L, rfl, ⟨⟨sf, ?_, fun x hx' => ⟨(HD.2 x hx').1, AT.safe (HD.2 x hx').1 (HD.2 x hx').2⟩⟩, N⟩, HD.1.trans AT, hE.1, hE.2.1, hE.2.2.1, hE.2.2.2.mono (hR ▸ hC) (hR ▸ hS)⟩
  · exact X.returnOut hx hret (hb hby hd) hr'
  · exact q
theorem k_ret {w : Value} {t : FieldType} {i : Instr} {rest : List Value} (G : Ctx Γ Z EL own bytes maxl ret nm rm hs0) (X : W Γ n0 T h C S sf) (hd : decode bytes pc = .ok (i, 1)) (hr : ret = some t) (hn : narrow t w = w)
    (hi : (i = .ireturn ∧ (t = .int ∨ t = .boolean ∨ t = .byte ∨ t = .char ∨ t = .short) ∧ ∃ z, w = .int z) ∨ (i = .lreturn ∧ t = .long ∧ ∃ z, w = .long z) ∨ (i = .dreturn ∧ t = .double ∧ ∃ z, w = .double z) ∨ (i = .freturn ∧ t = .float ∧ ∃ z, w = .float z) ∨ (i = .areturn ∧ t.isReference = true ∧ w.isRef = true))
    (q : Q (some w) h sf) (hC : C ≤ rm.cells) (hS : S ≤ rm.slots) : Go Γ n0 Q T (mkF Γ.m pc Ls (w :: rest)) := by
  obtain ⟨hx, hZ, hown, hby, hml, hret, hnm, hlk, hR, hsH, hzz, hel, hew⟩ := G
  subst hzz hel
  obtain ⟨aw, hew⟩ := hew
  obtain ⟨L, vm0, k0, X, e, N, hSi, hk, HD⟩ := X
  subst e
  have e : T.heap = T.heap := rfl
  have AT := CHv.at X (State.Warmed39.trans hZ hSi.1) hew HD.1.1
  subst hr
  obtain ⟨fs, hr', hrun, hended, hE⟩ := X.leaveW hSi (by rw [e]; exact hk) (v := some w) (fun h => by rw [hret] at h; cases h) hlk
  refine ⟨_, _, ?_, hrun, hended, some w, L, rfl, ⟨⟨sf, ?_, fun x hx' => ⟨(HD.2 x hx').1, AT.safe (HD.2 x hx').1 (HD.2 x hx').2⟩⟩, N⟩, HD.1.trans AT, hE.1, hE.2.1, hE.2.2.1, hE.2.2.2.mono (hR ▸ hC) (hR ▸ hS)⟩
  · exact retOut X hx hret hn hi (hb hby hd) hr'
  · exact q
theorem k_reti {z : Int32} {rest : List Value} (G : Ctx Γ Z EL own bytes maxl ret nm rm hs0) (X : W Γ n0 T h C S sf) (hd : decode bytes pc = .ok (.ireturn, 1)) (hr : ret = some .int) (q : Q (some (.int z)) h sf) (hC : C ≤ rm.cells) (hS : S ≤ rm.slots) : Go Γ n0 Q T (mkF Γ.m pc Ls (.int z :: rest)) :=
  k_ret G X hd hr rfl (Or.inl ⟨rfl, Or.inl rfl, _, rfl⟩) q hC hS
theorem k_retb {z : Int32} {rest : List Value} {t : FieldType} (G : Ctx Γ Z EL own bytes maxl ret nm rm hs0) (X : W Γ n0 T h C S sf) (hd : decode bytes pc = .ok (.ireturn, 1)) (hr : ret = some t) (ht : t = .int ∨ t = .boolean ∨ t = .byte ∨ t = .char ∨ t = .short) (hn : narrow t (.int z) = .int z) (q : Q (some (.int z)) h sf) (hC : C ≤ rm.cells) (hS : S ≤ rm.slots) : Go Γ n0 Q T (mkF Γ.m pc Ls (.int z :: rest)) :=
  k_ret G X hd hr hn (Or.inl ⟨rfl, ht, _, rfl⟩) q hC hS
theorem k_retl {z : Int64} {rest : List Value} (G : Ctx Γ Z EL own bytes maxl ret nm rm hs0) (X : W Γ n0 T h C S sf) (hd : decode bytes pc = .ok (.lreturn, 1)) (hr : ret = some .long) (q : Q (some (.long z)) h sf) (hC : C ≤ rm.cells) (hS : S ≤ rm.slots) : Go Γ n0 Q T (mkF Γ.m pc Ls (.long z :: rest)) :=
  k_ret G X hd hr rfl (Or.inr (Or.inl ⟨rfl, rfl, _, rfl⟩)) q hC hS
theorem narrow_ref {t : FieldType} {w : Value} (ht : t.isReference = true) : narrow t w = w := by cases t <;> first | (cases ht; done) | (cases w <;> rfl)
theorem k_reta {w : Value} {rest : List Value} {t : FieldType} (G : Ctx Γ Z EL own bytes maxl ret nm rm hs0) (X : W Γ n0 T h C S sf) (hd : decode bytes pc = .ok (.areturn, 1)) (hr : ret = some t) (ht : t.isReference = true) (hv : w.isRef = true) (q : Q (some w) h sf) (hC : C ≤ rm.cells) (hS : S ≤ rm.slots) : Go Γ n0 Q T (mkF Γ.m pc Ls (w :: rest)) :=
  k_ret G X hd hr (narrow_ref ht) (Or.inr (Or.inr (Or.inr (Or.inr ⟨rfl, ht, hv⟩)))) q hC hS
theorem k_iloadN {k : Fin 4} {v : Int32} (G : Ctx Γ Z EL own bytes maxl ret nm rm hs0) (X : W Γ n0 T h C S sf) (hd : decode bytes pc = .ok (.iload_n k, 1)) (hp : pc + 1 = pc') (hl : Ls[k.val]? = some (.val (.int v))) (K : Go Γ n0 Q T (mkF Γ.m pc' Ls (.int v :: st))) : Go Γ n0 Q T (mkF Γ.m pc Ls (st)) := by
  subst hp
  obtain ⟨hx, hZ0, hown0, hby, hml, hret, hnm, hlk, hR, hsH, hzz, hel, hew⟩ := G
  subst hzz hel
  obtain ⟨aw, hew⟩ := hew
  obtain ⟨L, vm0, k0, X, e, N, hS, hk, HD⟩ := X
  have hZ : Γ.Z.Warmed39 (Γ.s.setVm vm0).vm := State.Warmed39.trans hZ0 hS.1
  have hown : (Γ.s.setVm vm0).vm.findClass own = some Γ.m.cls := by rw [show (Γ.s.setVm vm0).vm = vm0 from rfl, hS.1.alike.findClass]; exact hown0
  exact Go.of (fun t k => XS.iloadN X.here hx rfl (hb hby hd) hl k) K
theorem k_iload {k : Nat} {v : Int32} (G : Ctx Γ Z EL own bytes maxl ret nm rm hs0) (X : W Γ n0 T h C S sf) (hd : decode bytes pc = .ok (.iload k, 2)) (hp : pc + 2 = pc') (hl : Ls[k]? = some (.val (.int v))) (K : Go Γ n0 Q T (mkF Γ.m pc' Ls (.int v :: st))) : Go Γ n0 Q T (mkF Γ.m pc Ls (st)) := by
  subst hp
  obtain ⟨hx, hZ0, hown0, hby, hml, hret, hnm, hlk, hR, hsH, hzz, hel, hew⟩ := G
  subst hzz hel
  obtain ⟨aw, hew⟩ := hew
  obtain ⟨L, vm0, k0, X, e, N, hS, hk, HD⟩ := X
  have hZ : Γ.Z.Warmed39 (Γ.s.setVm vm0).vm := State.Warmed39.trans hZ0 hS.1
  have hown : (Γ.s.setVm vm0).vm.findClass own = some Γ.m.cls := by rw [show (Γ.s.setVm vm0).vm = vm0 from rfl, hS.1.alike.findClass]; exact hown0
  exact Go.of (fun t k => XS.iload X.here hx rfl (hb hby hd) hl k) K
theorem k_lloadN {k : Fin 4} {v : Int64} (G : Ctx Γ Z EL own bytes maxl ret nm rm hs0) (X : W Γ n0 T h C S sf) (hd : decode bytes pc = .ok (.lload_n k, 1)) (hp : pc + 1 = pc') (hl : Ls[k.val]? = some (.val (.long v))) (K : Go Γ n0 Q T (mkF Γ.m pc' Ls (.long v :: st))) : Go Γ n0 Q T (mkF Γ.m pc Ls (st)) := by
  subst hp
  obtain ⟨hx, hZ0, hown0, hby, hml, hret, hnm, hlk, hR, hsH, hzz, hel, hew⟩ := G
  subst hzz hel
  obtain ⟨aw, hew⟩ := hew
  obtain ⟨L, vm0, k0, X, e, N, hS, hk, HD⟩ := X
  have hZ : Γ.Z.Warmed39 (Γ.s.setVm vm0).vm := State.Warmed39.trans hZ0 hS.1
  have hown : (Γ.s.setVm vm0).vm.findClass own = some Γ.m.cls := by rw [show (Γ.s.setVm vm0).vm = vm0 from rfl, hS.1.alike.findClass]; exact hown0
  exact Go.of (fun t k => XS.lloadN X.here hx rfl (hb hby hd) hl k) K
theorem k_lload {k : Nat} {v : Int64} (G : Ctx Γ Z EL own bytes maxl ret nm rm hs0) (X : W Γ n0 T h C S sf) (hd : decode bytes pc = .ok (.lload k, 2)) (hp : pc + 2 = pc') (hl : Ls[k]? = some (.val (.long v))) (K : Go Γ n0 Q T (mkF Γ.m pc' Ls (.long v :: st))) : Go Γ n0 Q T (mkF Γ.m pc Ls (st)) := by
  subst hp
  obtain ⟨hx, hZ0, hown0, hby, hml, hret, hnm, hlk, hR, hsH, hzz, hel, hew⟩ := G
  subst hzz hel
  obtain ⟨aw, hew⟩ := hew
  obtain ⟨L, vm0, k0, X, e, N, hS, hk, HD⟩ := X
  have hZ : Γ.Z.Warmed39 (Γ.s.setVm vm0).vm := State.Warmed39.trans hZ0 hS.1
  have hown : (Γ.s.setVm vm0).vm.findClass own = some Γ.m.cls := by rw [show (Γ.s.setVm vm0).vm = vm0 from rfl, hS.1.alike.findClass]; exact hown0
  exact Go.of (fun t k => XS.lload X.here hx rfl (hb hby hd) hl k) K
theorem k_aloadN {k : Fin 4} {v : Value} (G : Ctx Γ Z EL own bytes maxl ret nm rm hs0) (X : W Γ n0 T h C S sf) (hd : decode bytes pc = .ok (.aload_n k, 1)) (hp : pc + 1 = pc') (hl : Ls[k.val]? = some (.val v)) (hv : v.isRef = true) (K : Go Γ n0 Q T (mkF Γ.m pc' Ls (v :: st))) : Go Γ n0 Q T (mkF Γ.m pc Ls (st)) := by
  subst hp
  obtain ⟨hx, hZ0, hown0, hby, hml, hret, hnm, hlk, hR, hsH, hzz, hel, hew⟩ := G
  subst hzz hel
  obtain ⟨aw, hew⟩ := hew
  obtain ⟨L, vm0, k0, X, e, N, hS, hk, HD⟩ := X
  have hZ : Γ.Z.Warmed39 (Γ.s.setVm vm0).vm := State.Warmed39.trans hZ0 hS.1
  have hown : (Γ.s.setVm vm0).vm.findClass own = some Γ.m.cls := by rw [show (Γ.s.setVm vm0).vm = vm0 from rfl, hS.1.alike.findClass]; exact hown0
  exact Go.of (fun t k => XS.aloadN X.here hx rfl (hb hby hd) hl hv k) K
theorem k_aload {k : Nat} {v : Value} (G : Ctx Γ Z EL own bytes maxl ret nm rm hs0) (X : W Γ n0 T h C S sf) (hd : decode bytes pc = .ok (.aload k, 2)) (hp : pc + 2 = pc') (hl : Ls[k]? = some (.val v)) (hv : v.isRef = true) (K : Go Γ n0 Q T (mkF Γ.m pc' Ls (v :: st))) : Go Γ n0 Q T (mkF Γ.m pc Ls (st)) := by
  subst hp
  obtain ⟨hx, hZ0, hown0, hby, hml, hret, hnm, hlk, hR, hsH, hzz, hel, hew⟩ := G
  subst hzz hel
  obtain ⟨aw, hew⟩ := hew
  obtain ⟨L, vm0, k0, X, e, N, hS, hk, HD⟩ := X
  have hZ : Γ.Z.Warmed39 (Γ.s.setVm vm0).vm := State.Warmed39.trans hZ0 hS.1
  have hown : (Γ.s.setVm vm0).vm.findClass own = some Γ.m.cls := by rw [show (Γ.s.setVm vm0).vm = vm0 from rfl, hS.1.alike.findClass]; exact hown0
  exact Go.of (fun t k => XS.aload X.here hx rfl (hb hby hd) hl hv k) K
theorem k_istoreN {k : Fin 4} {v : Int32} {l' : Array Slot} (G : Ctx Γ Z EL own bytes maxl ret nm rm hs0) (X : W Γ n0 T h C S sf) (hd : decode bytes pc = .ok (.istore_n k, 1)) (hp : pc + 1 = pc') (hl : storeLocals Ls k.val (.int v) = some l') (K : Go Γ n0 Q T (mkF Γ.m pc' l' (st))) : Go Γ n0 Q T (mkF Γ.m pc Ls (.int v :: st)) := by
  subst hp
  obtain ⟨hx, hZ0, hown0, hby, hml, hret, hnm, hlk, hR, hsH, hzz, hel, hew⟩ := G
  subst hzz hel
  obtain ⟨aw, hew⟩ := hew
  obtain ⟨L, vm0, k0, X, e, N, hS, hk, HD⟩ := X
  have hZ : Γ.Z.Warmed39 (Γ.s.setVm vm0).vm := State.Warmed39.trans hZ0 hS.1
  have hown : (Γ.s.setVm vm0).vm.findClass own = some Γ.m.cls := by rw [show (Γ.s.setVm vm0).vm = vm0 from rfl, hS.1.alike.findClass]; exact hown0
  exact Go.of (fun t k => XS.istoreN X.here hx rfl (hb hby hd) rfl hl k) K
theorem k_istore {k : Nat} {v : Int32} {l' : Array Slot} (G : Ctx Γ Z EL own bytes maxl ret nm rm hs0) (X : W Γ n0 T h C S sf) (hd : decode bytes pc = .ok (.istore k, 2)) (hp : pc + 2 = pc') (hl : storeLocals Ls k (.int v) = some l') (K : Go Γ n0 Q T (mkF Γ.m pc' l' (st))) : Go Γ n0 Q T (mkF Γ.m pc Ls (.int v :: st)) := by
  subst hp
  obtain ⟨hx, hZ0, hown0, hby, hml, hret, hnm, hlk, hR, hsH, hzz, hel, hew⟩ := G
  subst hzz hel
  obtain ⟨aw, hew⟩ := hew
  obtain ⟨L, vm0, k0, X, e, N, hS, hk, HD⟩ := X
  have hZ : Γ.Z.Warmed39 (Γ.s.setVm vm0).vm := State.Warmed39.trans hZ0 hS.1
  have hown : (Γ.s.setVm vm0).vm.findClass own = some Γ.m.cls := by rw [show (Γ.s.setVm vm0).vm = vm0 from rfl, hS.1.alike.findClass]; exact hown0
  exact Go.of (fun t k => XS.istore X.here hx rfl (hb hby hd) rfl hl k) K
theorem k_lstoreN {k : Fin 4} {v : Int64} {l' : Array Slot} (G : Ctx Γ Z EL own bytes maxl ret nm rm hs0) (X : W Γ n0 T h C S sf) (hd : decode bytes pc = .ok (.lstore_n k, 1)) (hp : pc + 1 = pc') (hl : storeLocals Ls k.val (.long v) = some l') (K : Go Γ n0 Q T (mkF Γ.m pc' l' (st))) : Go Γ n0 Q T (mkF Γ.m pc Ls (.long v :: st)) := by
  subst hp
  obtain ⟨hx, hZ0, hown0, hby, hml, hret, hnm, hlk, hR, hsH, hzz, hel, hew⟩ := G
  subst hzz hel
  obtain ⟨aw, hew⟩ := hew
  obtain ⟨L, vm0, k0, X, e, N, hS, hk, HD⟩ := X
  have hZ : Γ.Z.Warmed39 (Γ.s.setVm vm0).vm := State.Warmed39.trans hZ0 hS.1
  have hown : (Γ.s.setVm vm0).vm.findClass own = some Γ.m.cls := by rw [show (Γ.s.setVm vm0).vm = vm0 from rfl, hS.1.alike.findClass]; exact hown0
  exact Go.of (fun t k => XS.lstoreN X.here hx rfl (hb hby hd) rfl hl k) K
theorem k_lstore {k : Nat} {v : Int64} {l' : Array Slot} (G : Ctx Γ Z EL own bytes maxl ret nm rm hs0) (X : W Γ n0 T h C S sf) (hd : decode bytes pc = .ok (.lstore k, 2)) (hp : pc + 2 = pc') (hl : storeLocals Ls k (.long v) = some l') (K : Go Γ n0 Q T (mkF Γ.m pc' l' (st))) : Go Γ n0 Q T (mkF Γ.m pc Ls (.long v :: st)) := by
  subst hp
  obtain ⟨hx, hZ0, hown0, hby, hml, hret, hnm, hlk, hR, hsH, hzz, hel, hew⟩ := G
  subst hzz hel
  obtain ⟨aw, hew⟩ := hew
  obtain ⟨L, vm0, k0, X, e, N, hS, hk, HD⟩ := X
  have hZ : Γ.Z.Warmed39 (Γ.s.setVm vm0).vm := State.Warmed39.trans hZ0 hS.1
  have hown : (Γ.s.setVm vm0).vm.findClass own = some Γ.m.cls := by rw [show (Γ.s.setVm vm0).vm = vm0 from rfl, hS.1.alike.findClass]; exact hown0
  exact Go.of (fun t k => XS.lstore X.here hx rfl (hb hby hd) rfl hl k) K
theorem k_astoreN {k : Fin 4} {v : Value} {l' : Array Slot} (G : Ctx Γ Z EL own bytes maxl ret nm rm hs0) (X : W Γ n0 T h C S sf) (hd : decode bytes pc = .ok (.astore_n k, 1)) (hp : pc + 1 = pc') (hv : v.isRef = true) (hl : storeLocals Ls k.val v = some l') (K : Go Γ n0 Q T (mkF Γ.m pc' l' (st))) : Go Γ n0 Q T (mkF Γ.m pc Ls (v :: st)) := by
  subst hp
  obtain ⟨hx, hZ0, hown0, hby, hml, hret, hnm, hlk, hR, hsH, hzz, hel, hew⟩ := G
  subst hzz hel
  obtain ⟨aw, hew⟩ := hew
  obtain ⟨L, vm0, k0, X, e, N, hS, hk, HD⟩ := X
  have hZ : Γ.Z.Warmed39 (Γ.s.setVm vm0).vm := State.Warmed39.trans hZ0 hS.1
  have hown : (Γ.s.setVm vm0).vm.findClass own = some Γ.m.cls := by rw [show (Γ.s.setVm vm0).vm = vm0 from rfl, hS.1.alike.findClass]; exact hown0
  exact Go.of (fun t k => XS.astoreN X.here hx rfl (hb hby hd) rfl hv hl k) K
theorem k_astore {k : Nat} {v : Value} {l' : Array Slot} (G : Ctx Γ Z EL own bytes maxl ret nm rm hs0) (X : W Γ n0 T h C S sf) (hd : decode bytes pc = .ok (.astore k, 2)) (hp : pc + 2 = pc') (hv : v.isRef = true) (hl : storeLocals Ls k v = some l') (K : Go Γ n0 Q T (mkF Γ.m pc' l' (st))) : Go Γ n0 Q T (mkF Γ.m pc Ls (v :: st)) := by
  subst hp
  obtain ⟨hx, hZ0, hown0, hby, hml, hret, hnm, hlk, hR, hsH, hzz, hel, hew⟩ := G
  subst hzz hel
  obtain ⟨aw, hew⟩ := hew
  obtain ⟨L, vm0, k0, X, e, N, hS, hk, HD⟩ := X
  have hZ : Γ.Z.Warmed39 (Γ.s.setVm vm0).vm := State.Warmed39.trans hZ0 hS.1
  have hown : (Γ.s.setVm vm0).vm.findClass own = some Γ.m.cls := by rw [show (Γ.s.setVm vm0).vm = vm0 from rfl, hS.1.alike.findClass]; exact hown0
  exact Go.of (fun t k => XS.astore X.here hx rfl (hb hby hd) rfl hv hl k) K
theorem k_iconst {i : Int} {z : Int32} (G : Ctx Γ Z EL own bytes maxl ret nm rm hs0) (X : W Γ n0 T h C S sf) (hd : decode bytes pc = .ok (.iconst i, 1)) (hp : pc + 1 = pc') (hz : Int32.ofInt i = z) (K : Go Γ n0 Q T (mkF Γ.m pc' Ls (.int z :: st))) : Go Γ n0 Q T (mkF Γ.m pc Ls (st)) := by
  subst hp
  obtain ⟨hx, hZ0, hown0, hby, hml, hret, hnm, hlk, hR, hsH, hzz, hel, hew⟩ := G
  subst hzz hel
  obtain ⟨aw, hew⟩ := hew
  obtain ⟨L, vm0, k0, X, e, N, hS, hk, HD⟩ := X
  have hZ : Γ.Z.Warmed39 (Γ.s.setVm vm0).vm := State.Warmed39.trans hZ0 hS.1
  have hown : (Γ.s.setVm vm0).vm.findClass own = some Γ.m.cls := by rw [show (Γ.s.setVm vm0).vm = vm0 from rfl, hS.1.alike.findClass]; exact hown0
  subst hz
  exact Go.of (fun t k => XS.iconst X.here hx rfl (hb hby hd) k) K
theorem k_bipush {i : Int} {z : Int32} (G : Ctx Γ Z EL own bytes maxl ret nm rm hs0) (X : W Γ n0 T h C S sf) (hd : decode bytes pc = .ok (.bipush i, 2)) (hp : pc + 2 = pc') (hz : (Int8.ofInt i).toInt32 = z) (K : Go Γ n0 Q T (mkF Γ.m pc' Ls (.int z :: st))) : Go Γ n0 Q T (mkF Γ.m pc Ls (st)) := by
  subst hp
  obtain ⟨hx, hZ0, hown0, hby, hml, hret, hnm, hlk, hR, hsH, hzz, hel, hew⟩ := G
  subst hzz hel
  obtain ⟨aw, hew⟩ := hew
  obtain ⟨L, vm0, k0, X, e, N, hS, hk, HD⟩ := X
  have hZ : Γ.Z.Warmed39 (Γ.s.setVm vm0).vm := State.Warmed39.trans hZ0 hS.1
  have hown : (Γ.s.setVm vm0).vm.findClass own = some Γ.m.cls := by rw [show (Γ.s.setVm vm0).vm = vm0 from rfl, hS.1.alike.findClass]; exact hown0
  subst hz
  exact Go.of (fun t k => XS.bipush X.here hx rfl (hb hby hd) k) K
theorem k_sipush {i : Int} {z : Int32} (G : Ctx Γ Z EL own bytes maxl ret nm rm hs0) (X : W Γ n0 T h C S sf) (hd : decode bytes pc = .ok (.sipush i, 3)) (hp : pc + 3 = pc') (hz : (Int16.ofInt i).toInt32 = z) (K : Go Γ n0 Q T (mkF Γ.m pc' Ls (.int z :: st))) : Go Γ n0 Q T (mkF Γ.m pc Ls (st)) := by
  subst hp
  obtain ⟨hx, hZ0, hown0, hby, hml, hret, hnm, hlk, hR, hsH, hzz, hel, hew⟩ := G
  subst hzz hel
  obtain ⟨aw, hew⟩ := hew
  obtain ⟨L, vm0, k0, X, e, N, hS, hk, HD⟩ := X
  have hZ : Γ.Z.Warmed39 (Γ.s.setVm vm0).vm := State.Warmed39.trans hZ0 hS.1
  have hown : (Γ.s.setVm vm0).vm.findClass own = some Γ.m.cls := by rw [show (Γ.s.setVm vm0).vm = vm0 from rfl, hS.1.alike.findClass]; exact hown0
  subst hz
  exact Go.of (fun t k => XS.sipush X.here hx rfl (hb hby hd) k) K
theorem k_lconst {i : Fin 2} {z : Int64} (G : Ctx Γ Z EL own bytes maxl ret nm rm hs0) (X : W Γ n0 T h C S sf) (hd : decode bytes pc = .ok (.lconst i, 1)) (hp : pc + 1 = pc') (hz : Int64.ofNat i = z) (K : Go Γ n0 Q T (mkF Γ.m pc' Ls (.long z :: st))) : Go Γ n0 Q T (mkF Γ.m pc Ls (st)) := by
  subst hp
  obtain ⟨hx, hZ0, hown0, hby, hml, hret, hnm, hlk, hR, hsH, hzz, hel, hew⟩ := G
  subst hzz hel
  obtain ⟨aw, hew⟩ := hew
  obtain ⟨L, vm0, k0, X, e, N, hS, hk, HD⟩ := X
  have hZ : Γ.Z.Warmed39 (Γ.s.setVm vm0).vm := State.Warmed39.trans hZ0 hS.1
  have hown : (Γ.s.setVm vm0).vm.findClass own = some Γ.m.cls := by rw [show (Γ.s.setVm vm0).vm = vm0 from rfl, hS.1.alike.findClass]; exact hown0
  subst hz
  exact Go.of (fun t k => XS.lconst X.here hx rfl (hb hby hd) k) K
theorem k_anull  (G : Ctx Γ Z EL own bytes maxl ret nm rm hs0) (X : W Γ n0 T h C S sf) (hd : decode bytes pc = .ok (.aconst_null, 1)) (hp : pc + 1 = pc')  (K : Go Γ n0 Q T (mkF Γ.m pc' Ls (.null :: st))) : Go Γ n0 Q T (mkF Γ.m pc Ls (st)) := by
  subst hp
  obtain ⟨hx, hZ0, hown0, hby, hml, hret, hnm, hlk, hR, hsH, hzz, hel, hew⟩ := G
  subst hzz hel
  obtain ⟨aw, hew⟩ := hew
  obtain ⟨L, vm0, k0, X, e, N, hS, hk, HD⟩ := X
  have hZ : Γ.Z.Warmed39 (Γ.s.setVm vm0).vm := State.Warmed39.trans hZ0 hS.1
  have hown : (Γ.s.setVm vm0).vm.findClass own = some Γ.m.cls := by rw [show (Γ.s.setVm vm0).vm = vm0 from rfl, hS.1.alike.findClass]; exact hown0
  exact Go.of (fun t k => XS.aconstNull X.here hx rfl (hb hby hd) k) K
theorem k_iadd {x y z : Int32} (G : Ctx Γ Z EL own bytes maxl ret nm rm hs0) (X : W Γ n0 T h C S sf) (hd : decode bytes pc = .ok (.iadd, 1)) (hp : pc + 1 = pc') (hz : x + y = z) (K : Go Γ n0 Q T (mkF Γ.m pc' Ls (.int z :: st))) : Go Γ n0 Q T (mkF Γ.m pc Ls (.int y :: .int x :: st)) := by
  subst hp
  obtain ⟨hx, hZ0, hown0, hby, hml, hret, hnm, hlk, hR, hsH, hzz, hel, hew⟩ := G
  subst hzz hel
  obtain ⟨aw, hew⟩ := hew
  obtain ⟨L, vm0, k0, X, e, N, hS, hk, HD⟩ := X
  have hZ : Γ.Z.Warmed39 (Γ.s.setVm vm0).vm := State.Warmed39.trans hZ0 hS.1
  have hown : (Γ.s.setVm vm0).vm.findClass own = some Γ.m.cls := by rw [show (Γ.s.setVm vm0).vm = vm0 from rfl, hS.1.alike.findClass]; exact hown0
  subst hz
  exact Go.of (fun t k => XS.iadd X.here hx rfl (hb hby hd) rfl k) K
theorem k_isub {x y z : Int32} (G : Ctx Γ Z EL own bytes maxl ret nm rm hs0) (X : W Γ n0 T h C S sf) (hd : decode bytes pc = .ok (.isub, 1)) (hp : pc + 1 = pc') (hz : x - y = z) (K : Go Γ n0 Q T (mkF Γ.m pc' Ls (.int z :: st))) : Go Γ n0 Q T (mkF Γ.m pc Ls (.int y :: .int x :: st)) := by
  subst hp
  obtain ⟨hx, hZ0, hown0, hby, hml, hret, hnm, hlk, hR, hsH, hzz, hel, hew⟩ := G
  subst hzz hel
  obtain ⟨aw, hew⟩ := hew
  obtain ⟨L, vm0, k0, X, e, N, hS, hk, HD⟩ := X
  have hZ : Γ.Z.Warmed39 (Γ.s.setVm vm0).vm := State.Warmed39.trans hZ0 hS.1
  have hown : (Γ.s.setVm vm0).vm.findClass own = some Γ.m.cls := by rw [show (Γ.s.setVm vm0).vm = vm0 from rfl, hS.1.alike.findClass]; exact hown0
  subst hz
  exact Go.of (fun t k => XS.isub X.here hx rfl (hb hby hd) rfl k) K
theorem k_imul {x y z : Int32} (G : Ctx Γ Z EL own bytes maxl ret nm rm hs0) (X : W Γ n0 T h C S sf) (hd : decode bytes pc = .ok (.imul, 1)) (hp : pc + 1 = pc') (hz : x * y = z) (K : Go Γ n0 Q T (mkF Γ.m pc' Ls (.int z :: st))) : Go Γ n0 Q T (mkF Γ.m pc Ls (.int y :: .int x :: st)) := by
  subst hp
  obtain ⟨hx, hZ0, hown0, hby, hml, hret, hnm, hlk, hR, hsH, hzz, hel, hew⟩ := G
  subst hzz hel
  obtain ⟨aw, hew⟩ := hew
  obtain ⟨L, vm0, k0, X, e, N, hS, hk, HD⟩ := X
  have hZ : Γ.Z.Warmed39 (Γ.s.setVm vm0).vm := State.Warmed39.trans hZ0 hS.1
  have hown : (Γ.s.setVm vm0).vm.findClass own = some Γ.m.cls := by rw [show (Γ.s.setVm vm0).vm = vm0 from rfl, hS.1.alike.findClass]; exact hown0
  subst hz
  exact Go.of (fun t k => XS.imul X.here hx rfl (hb hby hd) rfl k) K
theorem k_iand {x y z : Int32} (G : Ctx Γ Z EL own bytes maxl ret nm rm hs0) (X : W Γ n0 T h C S sf) (hd : decode bytes pc = .ok (.iand, 1)) (hp : pc + 1 = pc') (hz : x &&& y = z) (K : Go Γ n0 Q T (mkF Γ.m pc' Ls (.int z :: st))) : Go Γ n0 Q T (mkF Γ.m pc Ls (.int y :: .int x :: st)) := by
  subst hp
  obtain ⟨hx, hZ0, hown0, hby, hml, hret, hnm, hlk, hR, hsH, hzz, hel, hew⟩ := G
  subst hzz hel
  obtain ⟨aw, hew⟩ := hew
  obtain ⟨L, vm0, k0, X, e, N, hS, hk, HD⟩ := X
  have hZ : Γ.Z.Warmed39 (Γ.s.setVm vm0).vm := State.Warmed39.trans hZ0 hS.1
  have hown : (Γ.s.setVm vm0).vm.findClass own = some Γ.m.cls := by rw [show (Γ.s.setVm vm0).vm = vm0 from rfl, hS.1.alike.findClass]; exact hown0
  subst hz
  exact Go.of (fun t k => XS.iand X.here hx rfl (hb hby hd) rfl k) K
theorem k_ior {x y z : Int32} (G : Ctx Γ Z EL own bytes maxl ret nm rm hs0) (X : W Γ n0 T h C S sf) (hd : decode bytes pc = .ok (.ior, 1)) (hp : pc + 1 = pc') (hz : x ||| y = z) (K : Go Γ n0 Q T (mkF Γ.m pc' Ls (.int z :: st))) : Go Γ n0 Q T (mkF Γ.m pc Ls (.int y :: .int x :: st)) := by
  subst hp
  obtain ⟨hx, hZ0, hown0, hby, hml, hret, hnm, hlk, hR, hsH, hzz, hel, hew⟩ := G
  subst hzz hel
  obtain ⟨aw, hew⟩ := hew
  obtain ⟨L, vm0, k0, X, e, N, hS, hk, HD⟩ := X
  have hZ : Γ.Z.Warmed39 (Γ.s.setVm vm0).vm := State.Warmed39.trans hZ0 hS.1
  have hown : (Γ.s.setVm vm0).vm.findClass own = some Γ.m.cls := by rw [show (Γ.s.setVm vm0).vm = vm0 from rfl, hS.1.alike.findClass]; exact hown0
  subst hz
  exact Go.of (fun t k => XS.ior X.here hx rfl (hb hby hd) rfl k) K
theorem k_ixor {x y z : Int32} (G : Ctx Γ Z EL own bytes maxl ret nm rm hs0) (X : W Γ n0 T h C S sf) (hd : decode bytes pc = .ok (.ixor, 1)) (hp : pc + 1 = pc') (hz : x ^^^ y = z) (K : Go Γ n0 Q T (mkF Γ.m pc' Ls (.int z :: st))) : Go Γ n0 Q T (mkF Γ.m pc Ls (.int y :: .int x :: st)) := by
  subst hp
  obtain ⟨hx, hZ0, hown0, hby, hml, hret, hnm, hlk, hR, hsH, hzz, hel, hew⟩ := G
  subst hzz hel
  obtain ⟨aw, hew⟩ := hew
  obtain ⟨L, vm0, k0, X, e, N, hS, hk, HD⟩ := X
  have hZ : Γ.Z.Warmed39 (Γ.s.setVm vm0).vm := State.Warmed39.trans hZ0 hS.1
  have hown : (Γ.s.setVm vm0).vm.findClass own = some Γ.m.cls := by rw [show (Γ.s.setVm vm0).vm = vm0 from rfl, hS.1.alike.findClass]; exact hown0
  subst hz
  exact Go.of (fun t k => XS.ixor X.here hx rfl (hb hby hd) rfl k) K
theorem k_ishl {x y z : Int32} (G : Ctx Γ Z EL own bytes maxl ret nm rm hs0) (X : W Γ n0 T h C S sf) (hd : decode bytes pc = .ok (.ishl, 1)) (hp : pc + 1 = pc') (hz : x <<< (y &&& 31) = z) (K : Go Γ n0 Q T (mkF Γ.m pc' Ls (.int z :: st))) : Go Γ n0 Q T (mkF Γ.m pc Ls (.int y :: .int x :: st)) := by
  subst hp
  obtain ⟨hx, hZ0, hown0, hby, hml, hret, hnm, hlk, hR, hsH, hzz, hel, hew⟩ := G
  subst hzz hel
  obtain ⟨aw, hew⟩ := hew
  obtain ⟨L, vm0, k0, X, e, N, hS, hk, HD⟩ := X
  have hZ : Γ.Z.Warmed39 (Γ.s.setVm vm0).vm := State.Warmed39.trans hZ0 hS.1
  have hown : (Γ.s.setVm vm0).vm.findClass own = some Γ.m.cls := by rw [show (Γ.s.setVm vm0).vm = vm0 from rfl, hS.1.alike.findClass]; exact hown0
  subst hz
  exact Go.of (fun t k => XS.ishl X.here hx rfl (hb hby hd) rfl k) K
theorem k_ishr {x y z : Int32} (G : Ctx Γ Z EL own bytes maxl ret nm rm hs0) (X : W Γ n0 T h C S sf) (hd : decode bytes pc = .ok (.ishr, 1)) (hp : pc + 1 = pc') (hz : x >>> (y &&& 31) = z) (K : Go Γ n0 Q T (mkF Γ.m pc' Ls (.int z :: st))) : Go Γ n0 Q T (mkF Γ.m pc Ls (.int y :: .int x :: st)) := by
  subst hp
  obtain ⟨hx, hZ0, hown0, hby, hml, hret, hnm, hlk, hR, hsH, hzz, hel, hew⟩ := G
  subst hzz hel
  obtain ⟨aw, hew⟩ := hew
  obtain ⟨L, vm0, k0, X, e, N, hS, hk, HD⟩ := X
  have hZ : Γ.Z.Warmed39 (Γ.s.setVm vm0).vm := State.Warmed39.trans hZ0 hS.1
  have hown : (Γ.s.setVm vm0).vm.findClass own = some Γ.m.cls := by rw [show (Γ.s.setVm vm0).vm = vm0 from rfl, hS.1.alike.findClass]; exact hown0
  subst hz
  exact Go.of (fun t k => XS.ishr X.here hx rfl (hb hby hd) rfl k) K
theorem k_iushr {x y z : Int32} (G : Ctx Γ Z EL own bytes maxl ret nm rm hs0) (X : W Γ n0 T h C S sf) (hd : decode bytes pc = .ok (.iushr, 1)) (hp : pc + 1 = pc') (hz : (x.toUInt32 >>> (y &&& 31).toUInt32).toInt32 = z) (K : Go Γ n0 Q T (mkF Γ.m pc' Ls (.int z :: st))) : Go Γ n0 Q T (mkF Γ.m pc Ls (.int y :: .int x :: st)) := by
  subst hp
  obtain ⟨hx, hZ0, hown0, hby, hml, hret, hnm, hlk, hR, hsH, hzz, hel, hew⟩ := G
  subst hzz hel
  obtain ⟨aw, hew⟩ := hew
  obtain ⟨L, vm0, k0, X, e, N, hS, hk, HD⟩ := X
  have hZ : Γ.Z.Warmed39 (Γ.s.setVm vm0).vm := State.Warmed39.trans hZ0 hS.1
  have hown : (Γ.s.setVm vm0).vm.findClass own = some Γ.m.cls := by rw [show (Γ.s.setVm vm0).vm = vm0 from rfl, hS.1.alike.findClass]; exact hown0
  subst hz
  exact Go.of (fun t k => XS.iushr X.here hx rfl (hb hby hd) rfl k) K
theorem k_ladd {x y z : Int64} (G : Ctx Γ Z EL own bytes maxl ret nm rm hs0) (X : W Γ n0 T h C S sf) (hd : decode bytes pc = .ok (.ladd, 1)) (hp : pc + 1 = pc') (hz : x + y = z) (K : Go Γ n0 Q T (mkF Γ.m pc' Ls (.long z :: st))) : Go Γ n0 Q T (mkF Γ.m pc Ls (.long y :: .long x :: st)) := by
  subst hp
  obtain ⟨hx, hZ0, hown0, hby, hml, hret, hnm, hlk, hR, hsH, hzz, hel, hew⟩ := G
  subst hzz hel
  obtain ⟨aw, hew⟩ := hew
  obtain ⟨L, vm0, k0, X, e, N, hS, hk, HD⟩ := X
  have hZ : Γ.Z.Warmed39 (Γ.s.setVm vm0).vm := State.Warmed39.trans hZ0 hS.1
  have hown : (Γ.s.setVm vm0).vm.findClass own = some Γ.m.cls := by rw [show (Γ.s.setVm vm0).vm = vm0 from rfl, hS.1.alike.findClass]; exact hown0
  subst hz
  exact Go.of (fun t k => XS.ladd X.here hx rfl (hb hby hd) rfl k) K
theorem k_lsub {x y z : Int64} (G : Ctx Γ Z EL own bytes maxl ret nm rm hs0) (X : W Γ n0 T h C S sf) (hd : decode bytes pc = .ok (.lsub, 1)) (hp : pc + 1 = pc') (hz : x - y = z) (K : Go Γ n0 Q T (mkF Γ.m pc' Ls (.long z :: st))) : Go Γ n0 Q T (mkF Γ.m pc Ls (.long y :: .long x :: st)) := by
  subst hp
  obtain ⟨hx, hZ0, hown0, hby, hml, hret, hnm, hlk, hR, hsH, hzz, hel, hew⟩ := G
  subst hzz hel
  obtain ⟨aw, hew⟩ := hew
  obtain ⟨L, vm0, k0, X, e, N, hS, hk, HD⟩ := X
  have hZ : Γ.Z.Warmed39 (Γ.s.setVm vm0).vm := State.Warmed39.trans hZ0 hS.1
  have hown : (Γ.s.setVm vm0).vm.findClass own = some Γ.m.cls := by rw [show (Γ.s.setVm vm0).vm = vm0 from rfl, hS.1.alike.findClass]; exact hown0
  subst hz
  exact Go.of (fun t k => XS.lsub X.here hx rfl (hb hby hd) rfl k) K
theorem k_lmul {x y z : Int64} (G : Ctx Γ Z EL own bytes maxl ret nm rm hs0) (X : W Γ n0 T h C S sf) (hd : decode bytes pc = .ok (.lmul, 1)) (hp : pc + 1 = pc') (hz : x * y = z) (K : Go Γ n0 Q T (mkF Γ.m pc' Ls (.long z :: st))) : Go Γ n0 Q T (mkF Γ.m pc Ls (.long y :: .long x :: st)) := by
  subst hp
  obtain ⟨hx, hZ0, hown0, hby, hml, hret, hnm, hlk, hR, hsH, hzz, hel, hew⟩ := G
  subst hzz hel
  obtain ⟨aw, hew⟩ := hew
  obtain ⟨L, vm0, k0, X, e, N, hS, hk, HD⟩ := X
  have hZ : Γ.Z.Warmed39 (Γ.s.setVm vm0).vm := State.Warmed39.trans hZ0 hS.1
  have hown : (Γ.s.setVm vm0).vm.findClass own = some Γ.m.cls := by rw [show (Γ.s.setVm vm0).vm = vm0 from rfl, hS.1.alike.findClass]; exact hown0
  subst hz
  exact Go.of (fun t k => XS.lmul X.here hx rfl (hb hby hd) rfl k) K
theorem k_land {x y z : Int64} (G : Ctx Γ Z EL own bytes maxl ret nm rm hs0) (X : W Γ n0 T h C S sf) (hd : decode bytes pc = .ok (.land, 1)) (hp : pc + 1 = pc') (hz : x &&& y = z) (K : Go Γ n0 Q T (mkF Γ.m pc' Ls (.long z :: st))) : Go Γ n0 Q T (mkF Γ.m pc Ls (.long y :: .long x :: st)) := by
  subst hp
  obtain ⟨hx, hZ0, hown0, hby, hml, hret, hnm, hlk, hR, hsH, hzz, hel, hew⟩ := G
  subst hzz hel
  obtain ⟨aw, hew⟩ := hew
  obtain ⟨L, vm0, k0, X, e, N, hS, hk, HD⟩ := X
  have hZ : Γ.Z.Warmed39 (Γ.s.setVm vm0).vm := State.Warmed39.trans hZ0 hS.1
  have hown : (Γ.s.setVm vm0).vm.findClass own = some Γ.m.cls := by rw [show (Γ.s.setVm vm0).vm = vm0 from rfl, hS.1.alike.findClass]; exact hown0
  subst hz
  exact Go.of (fun t k => XS.land X.here hx rfl (hb hby hd) rfl k) K
theorem k_lor {x y z : Int64} (G : Ctx Γ Z EL own bytes maxl ret nm rm hs0) (X : W Γ n0 T h C S sf) (hd : decode bytes pc = .ok (.lor, 1)) (hp : pc + 1 = pc') (hz : x ||| y = z) (K : Go Γ n0 Q T (mkF Γ.m pc' Ls (.long z :: st))) : Go Γ n0 Q T (mkF Γ.m pc Ls (.long y :: .long x :: st)) := by
  subst hp
  obtain ⟨hx, hZ0, hown0, hby, hml, hret, hnm, hlk, hR, hsH, hzz, hel, hew⟩ := G
  subst hzz hel
  obtain ⟨aw, hew⟩ := hew
  obtain ⟨L, vm0, k0, X, e, N, hS, hk, HD⟩ := X
  have hZ : Γ.Z.Warmed39 (Γ.s.setVm vm0).vm := State.Warmed39.trans hZ0 hS.1
  have hown : (Γ.s.setVm vm0).vm.findClass own = some Γ.m.cls := by rw [show (Γ.s.setVm vm0).vm = vm0 from rfl, hS.1.alike.findClass]; exact hown0
  subst hz
  exact Go.of (fun t k => XS.lor X.here hx rfl (hb hby hd) rfl k) K
theorem k_lxor {x y z : Int64} (G : Ctx Γ Z EL own bytes maxl ret nm rm hs0) (X : W Γ n0 T h C S sf) (hd : decode bytes pc = .ok (.lxor, 1)) (hp : pc + 1 = pc') (hz : x ^^^ y = z) (K : Go Γ n0 Q T (mkF Γ.m pc' Ls (.long z :: st))) : Go Γ n0 Q T (mkF Γ.m pc Ls (.long y :: .long x :: st)) := by
  subst hp
  obtain ⟨hx, hZ0, hown0, hby, hml, hret, hnm, hlk, hR, hsH, hzz, hel, hew⟩ := G
  subst hzz hel
  obtain ⟨aw, hew⟩ := hew
  obtain ⟨L, vm0, k0, X, e, N, hS, hk, HD⟩ := X
  have hZ : Γ.Z.Warmed39 (Γ.s.setVm vm0).vm := State.Warmed39.trans hZ0 hS.1
  have hown : (Γ.s.setVm vm0).vm.findClass own = some Γ.m.cls := by rw [show (Γ.s.setVm vm0).vm = vm0 from rfl, hS.1.alike.findClass]; exact hown0
  subst hz
  exact Go.of (fun t k => XS.lxor X.here hx rfl (hb hby hd) rfl k) K
theorem k_lshl {x z : Int64} {y : Int32} (G : Ctx Γ Z EL own bytes maxl ret nm rm hs0) (X : W Γ n0 T h C S sf) (hd : decode bytes pc = .ok (.lshl, 1)) (hp : pc + 1 = pc') (hz : x <<< (y &&& 0x3f).toInt64 = z) (K : Go Γ n0 Q T (mkF Γ.m pc' Ls (.long z :: st))) : Go Γ n0 Q T (mkF Γ.m pc Ls (.int y :: .long x :: st)) := by
  subst hp
  obtain ⟨hx, hZ0, hown0, hby, hml, hret, hnm, hlk, hR, hsH, hzz, hel, hew⟩ := G
  subst hzz hel
  obtain ⟨aw, hew⟩ := hew
  obtain ⟨L, vm0, k0, X, e, N, hS, hk, HD⟩ := X
  have hZ : Γ.Z.Warmed39 (Γ.s.setVm vm0).vm := State.Warmed39.trans hZ0 hS.1
  have hown : (Γ.s.setVm vm0).vm.findClass own = some Γ.m.cls := by rw [show (Γ.s.setVm vm0).vm = vm0 from rfl, hS.1.alike.findClass]; exact hown0
  subst hz
  exact Go.of (fun t k => XS.lshl X.here hx rfl (hb hby hd) rfl k) K
theorem k_lshr {x z : Int64} {y : Int32} (G : Ctx Γ Z EL own bytes maxl ret nm rm hs0) (X : W Γ n0 T h C S sf) (hd : decode bytes pc = .ok (.lshr, 1)) (hp : pc + 1 = pc') (hz : x >>> (y &&& 0x3f).toInt64 = z) (K : Go Γ n0 Q T (mkF Γ.m pc' Ls (.long z :: st))) : Go Γ n0 Q T (mkF Γ.m pc Ls (.int y :: .long x :: st)) := by
  subst hp
  obtain ⟨hx, hZ0, hown0, hby, hml, hret, hnm, hlk, hR, hsH, hzz, hel, hew⟩ := G
  subst hzz hel
  obtain ⟨aw, hew⟩ := hew
  obtain ⟨L, vm0, k0, X, e, N, hS, hk, HD⟩ := X
  have hZ : Γ.Z.Warmed39 (Γ.s.setVm vm0).vm := State.Warmed39.trans hZ0 hS.1
  have hown : (Γ.s.setVm vm0).vm.findClass own = some Γ.m.cls := by rw [show (Γ.s.setVm vm0).vm = vm0 from rfl, hS.1.alike.findClass]; exact hown0
  subst hz
  exact Go.of (fun t k => XS.lshr X.here hx rfl (hb hby hd) rfl k) K
theorem k_lushr {x z : Int64} {y : Int32} (G : Ctx Γ Z EL own bytes maxl ret nm rm hs0) (X : W Γ n0 T h C S sf) (hd : decode bytes pc = .ok (.lushr, 1)) (hp : pc + 1 = pc') (hz : (x.toUInt64 >>> (y &&& 0x3f).toInt64.toUInt64).toInt64 = z) (K : Go Γ n0 Q T (mkF Γ.m pc' Ls (.long z :: st))) : Go Γ n0 Q T (mkF Γ.m pc Ls (.int y :: .long x :: st)) := by
  subst hp
  obtain ⟨hx, hZ0, hown0, hby, hml, hret, hnm, hlk, hR, hsH, hzz, hel, hew⟩ := G
  subst hzz hel
  obtain ⟨aw, hew⟩ := hew
  obtain ⟨L, vm0, k0, X, e, N, hS, hk, HD⟩ := X
  have hZ : Γ.Z.Warmed39 (Γ.s.setVm vm0).vm := State.Warmed39.trans hZ0 hS.1
  have hown : (Γ.s.setVm vm0).vm.findClass own = some Γ.m.cls := by rw [show (Γ.s.setVm vm0).vm = vm0 from rfl, hS.1.alike.findClass]; exact hown0
  subst hz
  exact Go.of (fun t k => XS.lushr X.here hx rfl (hb hby hd) rfl k) K
theorem k_idiv {x y z : Int32} (G : Ctx Γ Z EL own bytes maxl ret nm rm hs0) (X : W Γ n0 T h C S sf) (hd : decode bytes pc = .ok (.idiv, 1)) (hp : pc + 1 = pc') (hy : y ≠ 0) (hz : x / y = z) (K : Go Γ n0 Q T (mkF Γ.m pc' Ls (.int z :: st))) : Go Γ n0 Q T (mkF Γ.m pc Ls (.int y :: .int x :: st)) := by
  subst hp
  obtain ⟨hx, hZ0, hown0, hby, hml, hret, hnm, hlk, hR, hsH, hzz, hel, hew⟩ := G
  subst hzz hel
  obtain ⟨aw, hew⟩ := hew
  obtain ⟨L, vm0, k0, X, e, N, hS, hk, HD⟩ := X
  have hZ : Γ.Z.Warmed39 (Γ.s.setVm vm0).vm := State.Warmed39.trans hZ0 hS.1
  have hown : (Γ.s.setVm vm0).vm.findClass own = some Γ.m.cls := by rw [show (Γ.s.setVm vm0).vm = vm0 from rfl, hS.1.alike.findClass]; exact hown0
  subst hz
  exact Go.of (fun t k => XS.idiv X.here hx rfl (hb hby hd) rfl hy k) K
theorem k_irem {x y z : Int32} (G : Ctx Γ Z EL own bytes maxl ret nm rm hs0) (X : W Γ n0 T h C S sf) (hd : decode bytes pc = .ok (.irem, 1)) (hp : pc + 1 = pc') (hy : y ≠ 0) (hz : x % y = z) (K : Go Γ n0 Q T (mkF Γ.m pc' Ls (.int z :: st))) : Go Γ n0 Q T (mkF Γ.m pc Ls (.int y :: .int x :: st)) := by
  subst hp
  obtain ⟨hx, hZ0, hown0, hby, hml, hret, hnm, hlk, hR, hsH, hzz, hel, hew⟩ := G
  subst hzz hel
  obtain ⟨aw, hew⟩ := hew
  obtain ⟨L, vm0, k0, X, e, N, hS, hk, HD⟩ := X
  have hZ : Γ.Z.Warmed39 (Γ.s.setVm vm0).vm := State.Warmed39.trans hZ0 hS.1
  have hown : (Γ.s.setVm vm0).vm.findClass own = some Γ.m.cls := by rw [show (Γ.s.setVm vm0).vm = vm0 from rfl, hS.1.alike.findClass]; exact hown0
  subst hz
  exact Go.of (fun t k => iremM X hx rfl (hb hby hd) rfl hy k) K
theorem k_ldiv {x y z : Int64} (G : Ctx Γ Z EL own bytes maxl ret nm rm hs0) (X : W Γ n0 T h C S sf) (hd : decode bytes pc = .ok (.ldiv, 1)) (hp : pc + 1 = pc') (hy : y ≠ 0) (hz : x / y = z) (K : Go Γ n0 Q T (mkF Γ.m pc' Ls (.long z :: st))) : Go Γ n0 Q T (mkF Γ.m pc Ls (.long y :: .long x :: st)) := by
  subst hp
  obtain ⟨hx, hZ0, hown0, hby, hml, hret, hnm, hlk, hR, hsH, hzz, hel, hew⟩ := G
  subst hzz hel
  obtain ⟨aw, hew⟩ := hew
  obtain ⟨L, vm0, k0, X, e, N, hS, hk, HD⟩ := X
  have hZ : Γ.Z.Warmed39 (Γ.s.setVm vm0).vm := State.Warmed39.trans hZ0 hS.1
  have hown : (Γ.s.setVm vm0).vm.findClass own = some Γ.m.cls := by rw [show (Γ.s.setVm vm0).vm = vm0 from rfl, hS.1.alike.findClass]; exact hown0
  subst hz
  exact Go.of (fun t k => XS.ldiv X.here hx rfl (hb hby hd) rfl hy k) K
theorem k_lrem {x y z : Int64} (G : Ctx Γ Z EL own bytes maxl ret nm rm hs0) (X : W Γ n0 T h C S sf) (hd : decode bytes pc = .ok (.lrem, 1)) (hp : pc + 1 = pc') (hy : y ≠ 0) (hz : x % y = z) (K : Go Γ n0 Q T (mkF Γ.m pc' Ls (.long z :: st))) : Go Γ n0 Q T (mkF Γ.m pc Ls (.long y :: .long x :: st)) := by
  subst hp
  obtain ⟨hx, hZ0, hown0, hby, hml, hret, hnm, hlk, hR, hsH, hzz, hel, hew⟩ := G
  subst hzz hel
  obtain ⟨aw, hew⟩ := hew
  obtain ⟨L, vm0, k0, X, e, N, hS, hk, HD⟩ := X
  have hZ : Γ.Z.Warmed39 (Γ.s.setVm vm0).vm := State.Warmed39.trans hZ0 hS.1
  have hown : (Γ.s.setVm vm0).vm.findClass own = some Γ.m.cls := by rw [show (Γ.s.setVm vm0).vm = vm0 from rfl, hS.1.alike.findClass]; exact hown0
  subst hz
  rw [← lrem_mod] at K
  exact Go.of (fun t k => XS.lrem X.here hx rfl (hb hby hd) rfl hy k) K
theorem k_lcmp {x y : Int64} {z : Int32} (G : Ctx Γ Z EL own bytes maxl ret nm rm hs0) (X : W Γ n0 T h C S sf) (hd : decode bytes pc = .ok (.lcmp, 1)) (hp : pc + 1 = pc') (hz : (if x > y then (1 : Int32) else if x = y then 0 else -1) = z) (K : Go Γ n0 Q T (mkF Γ.m pc' Ls (.int z :: st))) : Go Γ n0 Q T (mkF Γ.m pc Ls (.long y :: .long x :: st)) := by
  subst hp
  obtain ⟨hx, hZ0, hown0, hby, hml, hret, hnm, hlk, hR, hsH, hzz, hel, hew⟩ := G
  subst hzz hel
  obtain ⟨aw, hew⟩ := hew
  obtain ⟨L, vm0, k0, X, e, N, hS, hk, HD⟩ := X
  have hZ : Γ.Z.Warmed39 (Γ.s.setVm vm0).vm := State.Warmed39.trans hZ0 hS.1
  have hown : (Γ.s.setVm vm0).vm.findClass own = some Γ.m.cls := by rw [show (Γ.s.setVm vm0).vm = vm0 from rfl, hS.1.alike.findClass]; exact hown0
  subst hz
  exact Go.of (fun t k => XS.lcmp X.here hx rfl (hb hby hd) rfl k) K
theorem k_ineg {x : Int32} {z : Int32} (G : Ctx Γ Z EL own bytes maxl ret nm rm hs0) (X : W Γ n0 T h C S sf) (hd : decode bytes pc = .ok (.ineg, 1)) (hp : pc + 1 = pc') (hz : -x = z) (K : Go Γ n0 Q T (mkF Γ.m pc' Ls (.int z :: st))) : Go Γ n0 Q T (mkF Γ.m pc Ls (.int x :: st)) := by
  subst hp
  obtain ⟨hx, hZ0, hown0, hby, hml, hret, hnm, hlk, hR, hsH, hzz, hel, hew⟩ := G
  subst hzz hel
  obtain ⟨aw, hew⟩ := hew
  obtain ⟨L, vm0, k0, X, e, N, hS, hk, HD⟩ := X
  have hZ : Γ.Z.Warmed39 (Γ.s.setVm vm0).vm := State.Warmed39.trans hZ0 hS.1
  have hown : (Γ.s.setVm vm0).vm.findClass own = some Γ.m.cls := by rw [show (Γ.s.setVm vm0).vm = vm0 from rfl, hS.1.alike.findClass]; exact hown0
  subst hz
  exact Go.of (fun t k => XS.ineg X.here hx rfl (hb hby hd) rfl k) K
theorem k_lneg {x : Int64} {z : Int64} (G : Ctx Γ Z EL own bytes maxl ret nm rm hs0) (X : W Γ n0 T h C S sf) (hd : decode bytes pc = .ok (.lneg, 1)) (hp : pc + 1 = pc') (hz : -x = z) (K : Go Γ n0 Q T (mkF Γ.m pc' Ls (.long z :: st))) : Go Γ n0 Q T (mkF Γ.m pc Ls (.long x :: st)) := by
  subst hp
  obtain ⟨hx, hZ0, hown0, hby, hml, hret, hnm, hlk, hR, hsH, hzz, hel, hew⟩ := G
  subst hzz hel
  obtain ⟨aw, hew⟩ := hew
  obtain ⟨L, vm0, k0, X, e, N, hS, hk, HD⟩ := X
  have hZ : Γ.Z.Warmed39 (Γ.s.setVm vm0).vm := State.Warmed39.trans hZ0 hS.1
  have hown : (Γ.s.setVm vm0).vm.findClass own = some Γ.m.cls := by rw [show (Γ.s.setVm vm0).vm = vm0 from rfl, hS.1.alike.findClass]; exact hown0
  subst hz
  exact Go.of (fun t k => XS.lneg X.here hx rfl (hb hby hd) rfl k) K
theorem k_i2l {x : Int32} {z : Int64} (G : Ctx Γ Z EL own bytes maxl ret nm rm hs0) (X : W Γ n0 T h C S sf) (hd : decode bytes pc = .ok (.i2l, 1)) (hp : pc + 1 = pc') (hz : x.toInt64 = z) (K : Go Γ n0 Q T (mkF Γ.m pc' Ls (.long z :: st))) : Go Γ n0 Q T (mkF Γ.m pc Ls (.int x :: st)) := by
  subst hp
  obtain ⟨hx, hZ0, hown0, hby, hml, hret, hnm, hlk, hR, hsH, hzz, hel, hew⟩ := G
  subst hzz hel
  obtain ⟨aw, hew⟩ := hew
  obtain ⟨L, vm0, k0, X, e, N, hS, hk, HD⟩ := X
  have hZ : Γ.Z.Warmed39 (Γ.s.setVm vm0).vm := State.Warmed39.trans hZ0 hS.1
  have hown : (Γ.s.setVm vm0).vm.findClass own = some Γ.m.cls := by rw [show (Γ.s.setVm vm0).vm = vm0 from rfl, hS.1.alike.findClass]; exact hown0
  subst hz
  exact Go.of (fun t k => XS.i2l X.here hx rfl (hb hby hd) rfl k) K
theorem k_l2i {x : Int64} {z : Int32} (G : Ctx Γ Z EL own bytes maxl ret nm rm hs0) (X : W Γ n0 T h C S sf) (hd : decode bytes pc = .ok (.l2i, 1)) (hp : pc + 1 = pc') (hz : x.toInt32 = z) (K : Go Γ n0 Q T (mkF Γ.m pc' Ls (.int z :: st))) : Go Γ n0 Q T (mkF Γ.m pc Ls (.long x :: st)) := by
  subst hp
  obtain ⟨hx, hZ0, hown0, hby, hml, hret, hnm, hlk, hR, hsH, hzz, hel, hew⟩ := G
  subst hzz hel
  obtain ⟨aw, hew⟩ := hew
  obtain ⟨L, vm0, k0, X, e, N, hS, hk, HD⟩ := X
  have hZ : Γ.Z.Warmed39 (Γ.s.setVm vm0).vm := State.Warmed39.trans hZ0 hS.1
  have hown : (Γ.s.setVm vm0).vm.findClass own = some Γ.m.cls := by rw [show (Γ.s.setVm vm0).vm = vm0 from rfl, hS.1.alike.findClass]; exact hown0
  subst hz
  exact Go.of (fun t k => XS.l2i X.here hx rfl (hb hby hd) rfl k) K
theorem k_i2b {x : Int32} {z : Int32} (G : Ctx Γ Z EL own bytes maxl ret nm rm hs0) (X : W Γ n0 T h C S sf) (hd : decode bytes pc = .ok (.i2b, 1)) (hp : pc + 1 = pc') (hz : x.toInt8.toInt32 = z) (K : Go Γ n0 Q T (mkF Γ.m pc' Ls (.int z :: st))) : Go Γ n0 Q T (mkF Γ.m pc Ls (.int x :: st)) := by
  subst hp
  obtain ⟨hx, hZ0, hown0, hby, hml, hret, hnm, hlk, hR, hsH, hzz, hel, hew⟩ := G
  subst hzz hel
  obtain ⟨aw, hew⟩ := hew
  obtain ⟨L, vm0, k0, X, e, N, hS, hk, HD⟩ := X
  have hZ : Γ.Z.Warmed39 (Γ.s.setVm vm0).vm := State.Warmed39.trans hZ0 hS.1
  have hown : (Γ.s.setVm vm0).vm.findClass own = some Γ.m.cls := by rw [show (Γ.s.setVm vm0).vm = vm0 from rfl, hS.1.alike.findClass]; exact hown0
  subst hz
  exact Go.of (fun t k => XS.i2b X.here hx rfl (hb hby hd) rfl k) K
theorem k_i2s {x : Int32} {z : Int32} (G : Ctx Γ Z EL own bytes maxl ret nm rm hs0) (X : W Γ n0 T h C S sf) (hd : decode bytes pc = .ok (.i2s, 1)) (hp : pc + 1 = pc') (hz : x.toInt16.toInt32 = z) (K : Go Γ n0 Q T (mkF Γ.m pc' Ls (.int z :: st))) : Go Γ n0 Q T (mkF Γ.m pc Ls (.int x :: st)) := by
  subst hp
  obtain ⟨hx, hZ0, hown0, hby, hml, hret, hnm, hlk, hR, hsH, hzz, hel, hew⟩ := G
  subst hzz hel
  obtain ⟨aw, hew⟩ := hew
  obtain ⟨L, vm0, k0, X, e, N, hS, hk, HD⟩ := X
  have hZ : Γ.Z.Warmed39 (Γ.s.setVm vm0).vm := State.Warmed39.trans hZ0 hS.1
  have hown : (Γ.s.setVm vm0).vm.findClass own = some Γ.m.cls := by rw [show (Γ.s.setVm vm0).vm = vm0 from rfl, hS.1.alike.findClass]; exact hown0
  subst hz
  exact Go.of (fun t k => XS.i2s X.here hx rfl (hb hby hd) rfl k) K
theorem k_i2c {x : Int32} {z : Int32} (G : Ctx Γ Z EL own bytes maxl ret nm rm hs0) (X : W Γ n0 T h C S sf) (hd : decode bytes pc = .ok (.i2c, 1)) (hp : pc + 1 = pc') (hz : x.toUInt32.toUInt16.toUInt32.toInt32 = z) (K : Go Γ n0 Q T (mkF Γ.m pc' Ls (.int z :: st))) : Go Γ n0 Q T (mkF Γ.m pc Ls (.int x :: st)) := by
  subst hp
  obtain ⟨hx, hZ0, hown0, hby, hml, hret, hnm, hlk, hR, hsH, hzz, hel, hew⟩ := G
  subst hzz hel
  obtain ⟨aw, hew⟩ := hew
  obtain ⟨L, vm0, k0, X, e, N, hS, hk, HD⟩ := X
  have hZ : Γ.Z.Warmed39 (Γ.s.setVm vm0).vm := State.Warmed39.trans hZ0 hS.1
  have hown : (Γ.s.setVm vm0).vm.findClass own = some Γ.m.cls := by rw [show (Γ.s.setVm vm0).vm = vm0 from rfl, hS.1.alike.findClass]; exact hown0
  subst hz
  exact Go.of (fun t k => XS.i2c X.here hx rfl (hb hby hd) rfl k) K
theorem k_pop {x : Value} (G : Ctx Γ Z EL own bytes maxl ret nm rm hs0) (X : W Γ n0 T h C S sf) (hd : decode bytes pc = .ok (.pop, 1)) (hp : pc + 1 = pc') (hc : x.category = 1) (K : Go Γ n0 Q T (mkF Γ.m pc' Ls (st))) : Go Γ n0 Q T (mkF Γ.m pc Ls (x :: st)) := by
  subst hp
  obtain ⟨hx, hZ0, hown0, hby, hml, hret, hnm, hlk, hR, hsH, hzz, hel, hew⟩ := G
  subst hzz hel
  obtain ⟨aw, hew⟩ := hew
  obtain ⟨L, vm0, k0, X, e, N, hS, hk, HD⟩ := X
  have hZ : Γ.Z.Warmed39 (Γ.s.setVm vm0).vm := State.Warmed39.trans hZ0 hS.1
  have hown : (Γ.s.setVm vm0).vm.findClass own = some Γ.m.cls := by rw [show (Γ.s.setVm vm0).vm = vm0 from rfl, hS.1.alike.findClass]; exact hown0
  exact Go.of (fun t k => XS.pop X.here hx rfl (hb hby hd) rfl hc k) K
theorem k_dup {x : Value} (G : Ctx Γ Z EL own bytes maxl ret nm rm hs0) (X : W Γ n0 T h C S sf) (hd : decode bytes pc = .ok (.dup, 1)) (hp : pc + 1 = pc') (hc : x.category = 1) (K : Go Γ n0 Q T (mkF Γ.m pc' Ls (x :: x :: st))) : Go Γ n0 Q T (mkF Γ.m pc Ls (x :: st)) := by
  subst hp
  obtain ⟨hx, hZ0, hown0, hby, hml, hret, hnm, hlk, hR, hsH, hzz, hel, hew⟩ := G
  subst hzz hel
  obtain ⟨aw, hew⟩ := hew
  obtain ⟨L, vm0, k0, X, e, N, hS, hk, HD⟩ := X
  have hZ : Γ.Z.Warmed39 (Γ.s.setVm vm0).vm := State.Warmed39.trans hZ0 hS.1
  have hown : (Γ.s.setVm vm0).vm.findClass own = some Γ.m.cls := by rw [show (Γ.s.setVm vm0).vm = vm0 from rfl, hS.1.alike.findClass]; exact hown0
  exact Go.of (fun t k => XS.dup X.here hx rfl (hb hby hd) rfl hc k) K
theorem k_dupx1 {x y : Value} (G : Ctx Γ Z EL own bytes maxl ret nm rm hs0) (X : W Γ n0 T h C S sf) (hd : decode bytes pc = .ok (.dup_x1, 1)) (hp : pc + 1 = pc') (hc : x.category = 1) (hc' : y.category = 1) (K : Go Γ n0 Q T (mkF Γ.m pc' Ls (x :: y :: x :: st))) : Go Γ n0 Q T (mkF Γ.m pc Ls (x :: y :: st)) := by
  subst hp
  obtain ⟨hx, hZ0, hown0, hby, hml, hret, hnm, hlk, hR, hsH, hzz, hel, hew⟩ := G
  subst hzz hel
  obtain ⟨aw, hew⟩ := hew
  obtain ⟨L, vm0, k0, X, e, N, hS, hk, HD⟩ := X
  have hZ : Γ.Z.Warmed39 (Γ.s.setVm vm0).vm := State.Warmed39.trans hZ0 hS.1
  have hown : (Γ.s.setVm vm0).vm.findClass own = some Γ.m.cls := by rw [show (Γ.s.setVm vm0).vm = vm0 from rfl, hS.1.alike.findClass]; exact hown0
  exact Go.of (fun t k => XS.dupX1 X.here hx rfl (hb hby hd) rfl hc hc' k) K
theorem k_dup2 {x y : Value} (G : Ctx Γ Z EL own bytes maxl ret nm rm hs0) (X : W Γ n0 T h C S sf) (hd : decode bytes pc = .ok (.dup2, 1)) (hp : pc + 1 = pc') (hc : x.category = 1) (hc' : y.category = 1) (K : Go Γ n0 Q T (mkF Γ.m pc' Ls (x :: y :: x :: y :: st))) : Go Γ n0 Q T (mkF Γ.m pc Ls (x :: y :: st)) := by
  subst hp
  obtain ⟨hx, hZ0, hown0, hby, hml, hret, hnm, hlk, hR, hsH, hzz, hel, hew⟩ := G
  subst hzz hel
  obtain ⟨aw, hew⟩ := hew
  obtain ⟨L, vm0, k0, X, e, N, hS, hk, HD⟩ := X
  have hZ : Γ.Z.Warmed39 (Γ.s.setVm vm0).vm := State.Warmed39.trans hZ0 hS.1
  have hown : (Γ.s.setVm vm0).vm.findClass own = some Γ.m.cls := by rw [show (Γ.s.setVm vm0).vm = vm0 from rfl, hS.1.alike.findClass]; exact hown0
  exact Go.of (fun t k => XT.dup2 X.here hx rfl (hb hby hd) rfl hc hc' k) K
theorem k_dup2l {x : Int64} (G : Ctx Γ Z EL own bytes maxl ret nm rm hs0) (X : W Γ n0 T h C S sf) (hd : decode bytes pc = .ok (.dup2, 1)) (hp : pc + 1 = pc')  (K : Go Γ n0 Q T (mkF Γ.m pc' Ls (.long x :: .long x :: st))) : Go Γ n0 Q T (mkF Γ.m pc Ls (.long x :: st)) := by
  subst hp
  obtain ⟨hx, hZ0, hown0, hby, hml, hret, hnm, hlk, hR, hsH, hzz, hel, hew⟩ := G
  subst hzz hel
  obtain ⟨aw, hew⟩ := hew
  obtain ⟨L, vm0, k0, X, e, N, hS, hk, HD⟩ := X
  have hZ : Γ.Z.Warmed39 (Γ.s.setVm vm0).vm := State.Warmed39.trans hZ0 hS.1
  have hown : (Γ.s.setVm vm0).vm.findClass own = some Γ.m.cls := by rw [show (Γ.s.setVm vm0).vm = vm0 from rfl, hS.1.alike.findClass]; exact hown0
  exact Go.of (fun t k => XT.dup2L X.here hx rfl (hb hby hd) rfl k) K
theorem k_iinc {k : Nat} {cst : Int} {x z : Int32} {l' : Array Slot} (G : Ctx Γ Z EL own bytes maxl ret nm rm hs0) (X : W Γ n0 T h C S sf) (hd : decode bytes pc = .ok (.iinc k cst, 3)) (hp : pc + 3 = pc') (hl : Ls[k]? = some (.val (.int x))) (hz : x + Int32.ofInt cst = z) (hl' : storeLocals Ls k (.int z) = some l') (K : Go Γ n0 Q T (mkF Γ.m pc' l' (st))) : Go Γ n0 Q T (mkF Γ.m pc Ls (st)) := by
  subst hp
  obtain ⟨hx, hZ0, hown0, hby, hml, hret, hnm, hlk, hR, hsH, hzz, hel, hew⟩ := G
  subst hzz hel
  obtain ⟨aw, hew⟩ := hew
  obtain ⟨L, vm0, k0, X, e, N, hS, hk, HD⟩ := X
  have hZ : Γ.Z.Warmed39 (Γ.s.setVm vm0).vm := State.Warmed39.trans hZ0 hS.1
  have hown : (Γ.s.setVm vm0).vm.findClass own = some Γ.m.cls := by rw [show (Γ.s.setVm vm0).vm = vm0 from rfl, hS.1.alike.findClass]; exact hown0
  subst hz
  exact Go.of (fun t k => XS.iinc X.here hx rfl (hb hby hd) hl hl' k) K
theorem k_istoreS {k : Nat} {v : Int32} {o : Slot} {l' : Array Slot} (G : Ctx Γ Z EL own bytes maxl ret nm rm hs0) (X : W Γ n0 T h C S sf) (hd : decode bytes pc = .ok (.istore k, 2)) (hp : pc + 2 = pc') (hold : Ls[k]? = some o) (ho : o = .unset ∨ ∃ w, o = .val w ∧ w.category = 1) (hl : Ls.setIfInBounds k (.val (.int v)) = l') (K : Go Γ n0 Q T (mkF Γ.m pc' l' (st))) : Go Γ n0 Q T (mkF Γ.m pc Ls (.int v :: st)) := by
  subst hp
  obtain ⟨hx, hZ0, hown0, hby, hml, hret, hnm, hlk, hR, hsH, hzz, hel, hew⟩ := G
  subst hzz hel
  obtain ⟨aw, hew⟩ := hew
  obtain ⟨L, vm0, k0, X, e, N, hS, hk, HD⟩ := X
  have hZ : Γ.Z.Warmed39 (Γ.s.setVm vm0).vm := State.Warmed39.trans hZ0 hS.1
  have hown : (Γ.s.setVm vm0).vm.findClass own = some Γ.m.cls := by rw [show (Γ.s.setVm vm0).vm = vm0 from rfl, hS.1.alike.findClass]; exact hown0
  subst hl
  exact Go.of (fun t k => XS.istoreS X.here hx rfl (hb hby hd) rfl hold ho k) K
theorem k_istoreNS {k : Fin 4} {v : Int32} {o : Slot} {l' : Array Slot} (G : Ctx Γ Z EL own bytes maxl ret nm rm hs0) (X : W Γ n0 T h C S sf) (hd : decode bytes pc = .ok (.istore_n k, 1)) (hp : pc + 1 = pc') (hold : Ls[k.val]? = some o) (ho : o = .unset ∨ ∃ w, o = .val w ∧ w.category = 1) (hl : Ls.setIfInBounds k.val (.val (.int v)) = l') (K : Go Γ n0 Q T (mkF Γ.m pc' l' (st))) : Go Γ n0 Q T (mkF Γ.m pc Ls (.int v :: st)) := by
  subst hp
  obtain ⟨hx, hZ0, hown0, hby, hml, hret, hnm, hlk, hR, hsH, hzz, hel, hew⟩ := G
  subst hzz hel
  obtain ⟨aw, hew⟩ := hew
  obtain ⟨L, vm0, k0, X, e, N, hS, hk, HD⟩ := X
  have hZ : Γ.Z.Warmed39 (Γ.s.setVm vm0).vm := State.Warmed39.trans hZ0 hS.1
  have hown : (Γ.s.setVm vm0).vm.findClass own = some Γ.m.cls := by rw [show (Γ.s.setVm vm0).vm = vm0 from rfl, hS.1.alike.findClass]; exact hown0
  subst hl
  exact Go.of (fun t k => XS.istoreNS X.here hx rfl (hb hby hd) rfl hold ho k) K
theorem k_astoreS {k : Nat} {v : Value} {o : Slot} {l' : Array Slot} (G : Ctx Γ Z EL own bytes maxl ret nm rm hs0) (X : W Γ n0 T h C S sf) (hd : decode bytes pc = .ok (.astore k, 2)) (hp : pc + 2 = pc') (hv : v.isRef = true) (hold : Ls[k]? = some o) (ho : o = .unset ∨ ∃ w, o = .val w ∧ w.category = 1) (hl : Ls.setIfInBounds k (.val v) = l') (K : Go Γ n0 Q T (mkF Γ.m pc' l' (st))) : Go Γ n0 Q T (mkF Γ.m pc Ls (v :: st)) := by
  subst hp
  obtain ⟨hx, hZ0, hown0, hby, hml, hret, hnm, hlk, hR, hsH, hzz, hel, hew⟩ := G
  subst hzz hel
  obtain ⟨aw, hew⟩ := hew
  obtain ⟨L, vm0, k0, X, e, N, hS, hk, HD⟩ := X
  have hZ : Γ.Z.Warmed39 (Γ.s.setVm vm0).vm := State.Warmed39.trans hZ0 hS.1
  have hown : (Γ.s.setVm vm0).vm.findClass own = some Γ.m.cls := by rw [show (Γ.s.setVm vm0).vm = vm0 from rfl, hS.1.alike.findClass]; exact hown0
  subst hl
  exact Go.of (fun t k => XS.astoreS X.here hx rfl (hb hby hd) rfl hv (by cases v <;> first | rfl | (simp [Value.isRef] at hv)) hold ho k) K
theorem k_astoreNS {k : Fin 4} {v : Value} {o : Slot} {l' : Array Slot} (G : Ctx Γ Z EL own bytes maxl ret nm rm hs0) (X : W Γ n0 T h C S sf) (hd : decode bytes pc = .ok (.astore_n k, 1)) (hp : pc + 1 = pc') (hv : v.isRef = true) (hold : Ls[k.val]? = some o) (ho : o = .unset ∨ ∃ w, o = .val w ∧ w.category = 1) (hl : Ls.setIfInBounds k.val (.val v) = l') (K : Go Γ n0 Q T (mkF Γ.m pc' l' (st))) : Go Γ n0 Q T (mkF Γ.m pc Ls (v :: st)) := by
  subst hp
  obtain ⟨hx, hZ0, hown0, hby, hml, hret, hnm, hlk, hR, hsH, hzz, hel, hew⟩ := G
  subst hzz hel
  obtain ⟨aw, hew⟩ := hew
  obtain ⟨L, vm0, k0, X, e, N, hS, hk, HD⟩ := X
  have hZ : Γ.Z.Warmed39 (Γ.s.setVm vm0).vm := State.Warmed39.trans hZ0 hS.1
  have hown : (Γ.s.setVm vm0).vm.findClass own = some Γ.m.cls := by rw [show (Γ.s.setVm vm0).vm = vm0 from rfl, hS.1.alike.findClass]; exact hown0
  subst hl
  exact Go.of (fun t k => XS.astoreN X.here hx rfl (hb hby hd) rfl hv (XS.store1 hold ho (by cases v <;> first | rfl | (simp [Value.isRef] at hv))) k) K
theorem k_goto {o : Int} (G : Ctx Γ Z EL own bytes maxl ret nm rm hs0) (X : W Γ n0 T h C S sf) (hd : decode bytes pc = .ok (.goto o, 3)) (ho : 0 ≤ (pc : Int) + o) (hp : ((pc : Int) + o).toNat = pc') (K : Go Γ n0 Q T (mkF Γ.m pc' Ls st)) : Go Γ n0 Q T (mkF Γ.m pc Ls st) := by
  obtain ⟨hx, hZ0, hown0, hby, hml, hret, hnm, hlk, hR, hsH, hzz, hel, hew⟩ := G
  subst hzz hel
  obtain ⟨aw, hew⟩ := hew
  obtain ⟨L, vm0, k0, X, e, N, hS, hk, HD⟩ := X
  have hZ : Γ.Z.Warmed39 (Γ.s.setVm vm0).vm := State.Warmed39.trans hZ0 hS.1
  have hown : (Γ.s.setVm vm0).vm.findClass own = some Γ.m.cls := by rw [show (Γ.s.setVm vm0).vm = vm0 from rfl, hS.1.alike.findClass]; exact hown0
  exact Go.of (fun t k => XS.goto X.here hx rfl (pc0 := pc) rfl (hb hby hd) ho hp k) K
theorem z32 : (0 : Int32).toInt = 0 := rfl
theorem hold_eq (x y : Int32) : (if_icmp.holds .eq x y = true → x = y) ∧ (if_icmp.holds .eq x y = false → x ≠ y) := by
  constructor <;> intro q <;> simp only [if_icmp.holds] at q <;> simp [Int32.lt_iff_toInt_lt, Int32.le_iff_toInt_le] at q ⊢ <;> first | exact q | omega
theorem hold0_eq (x : Int32) : (ifCond.holds .eq x = true → x = 0) ∧ (ifCond.holds .eq x = false → x ≠ 0) := by
  have z := z32
  constructor <;> intro q <;> simp only [ifCond.holds] at q <;> simp [Int32.lt_iff_toInt_lt, Int32.le_iff_toInt_le] at q ⊢ <;> first | exact q | omega
theorem k_icmp_eq {o : Int} {x y : Int32} {pc'' : Nat} (G : Ctx Γ Z EL own bytes maxl ret nm rm hs0) (X : W Γ n0 T h C S sf) (hd : decode bytes pc = .ok (.if_icmp .eq o, 3)) (hp : ((pc : Int) + o).toNat = pc') (ho : 0 ≤ (pc : Int) + o) (hp' : pc + 3 = pc'') (K : x = y → Go Γ n0 Q T (mkF Γ.m pc' Ls st)) (K' : x ≠ y → Go Γ n0 Q T (mkF Γ.m pc'' Ls st)) : Go Γ n0 Q T (mkF Γ.m pc Ls (.int y :: .int x :: st)) := by
  subst hp'
  obtain ⟨hx, hZ0, hown0, hby, hml, hret, hnm, hlk, hR, hsH, hzz, hel, hew⟩ := G
  subst hzz hel
  obtain ⟨aw, hew⟩ := hew
  obtain ⟨L, vm0, k0, X, e, N, hS, hk, HD⟩ := X
  have hZ : Γ.Z.Warmed39 (Γ.s.setVm vm0).vm := State.Warmed39.trans hZ0 hS.1
  have hown : (Γ.s.setVm vm0).vm.findClass own = some Γ.m.cls := by rw [show (Γ.s.setVm vm0).vm = vm0 from rfl, hS.1.alike.findClass]; exact hown0
  cases q : if_icmp.holds .eq x y
  · exact Go.of (fun t k => XS.icmpNo X.here hx rfl (hb hby hd) rfl q k) (K' ((hold_eq x y).2 q))
  · exact Go.of (fun t k => XS.icmpYes X.here hx rfl (pc0 := pc) rfl (hb hby hd) rfl q ho hp k) (K ((hold_eq x y).1 q))
theorem k_if_eq {o : Int} {x : Int32} {pc'' : Nat} (G : Ctx Γ Z EL own bytes maxl ret nm rm hs0) (X : W Γ n0 T h C S sf) (hd : decode bytes pc = .ok (.ifCond .eq o, 3)) (hp : ((pc : Int) + o).toNat = pc') (ho : 0 ≤ (pc : Int) + o) (hp' : pc + 3 = pc'') (K : x = 0 → Go Γ n0 Q T (mkF Γ.m pc' Ls st)) (K' : x ≠ 0 → Go Γ n0 Q T (mkF Γ.m pc'' Ls st)) : Go Γ n0 Q T (mkF Γ.m pc Ls (.int x :: st)) := by
  subst hp'
  obtain ⟨hx, hZ0, hown0, hby, hml, hret, hnm, hlk, hR, hsH, hzz, hel, hew⟩ := G
  subst hzz hel
  obtain ⟨aw, hew⟩ := hew
  obtain ⟨L, vm0, k0, X, e, N, hS, hk, HD⟩ := X
  have hZ : Γ.Z.Warmed39 (Γ.s.setVm vm0).vm := State.Warmed39.trans hZ0 hS.1
  have hown : (Γ.s.setVm vm0).vm.findClass own = some Γ.m.cls := by rw [show (Γ.s.setVm vm0).vm = vm0 from rfl, hS.1.alike.findClass]; exact hown0
  cases q : ifCond.holds .eq x
  · exact Go.of (fun t k => XS.ifNo X.here hx rfl (hb hby hd) rfl q k) (K' ((hold0_eq x).2 q))
  · exact Go.of (fun t k => XS.ifYes X.here hx rfl (pc0 := pc) rfl (hb hby hd) rfl q ho hp k) (K ((hold0_eq x).1 q))
theorem hold_ne (x y : Int32) : (if_icmp.holds .ne x y = true → x ≠ y) ∧ (if_icmp.holds .ne x y = false → x = y) := by
  constructor <;> intro q <;> simp only [if_icmp.holds] at q <;> simp [Int32.lt_iff_toInt_lt, Int32.le_iff_toInt_le] at q ⊢ <;> first | exact q | omega
theorem hold0_ne (x : Int32) : (ifCond.holds .ne x = true → x ≠ 0) ∧ (ifCond.holds .ne x = false → x = 0) := by
  have z := z32
  constructor <;> intro q <;> simp only [ifCond.holds] at q <;> simp [Int32.lt_iff_toInt_lt, Int32.le_iff_toInt_le] at q ⊢ <;> first | exact q | omega
theorem k_icmp_ne {o : Int} {x y : Int32} {pc'' : Nat} (G : Ctx Γ Z EL own bytes maxl ret nm rm hs0) (X : W Γ n0 T h C S sf) (hd : decode bytes pc = .ok (.if_icmp .ne o, 3)) (hp : ((pc : Int) + o).toNat = pc') (ho : 0 ≤ (pc : Int) + o) (hp' : pc + 3 = pc'') (K : x ≠ y → Go Γ n0 Q T (mkF Γ.m pc' Ls st)) (K' : x = y → Go Γ n0 Q T (mkF Γ.m pc'' Ls st)) : Go Γ n0 Q T (mkF Γ.m pc Ls (.int y :: .int x :: st)) := by
  subst hp'
  obtain ⟨hx, hZ0, hown0, hby, hml, hret, hnm, hlk, hR, hsH, hzz, hel, hew⟩ := G
  subst hzz hel
  obtain ⟨aw, hew⟩ := hew
  obtain ⟨L, vm0, k0, X, e, N, hS, hk, HD⟩ := X
  have hZ : Γ.Z.Warmed39 (Γ.s.setVm vm0).vm := State.Warmed39.trans hZ0 hS.1
  have hown : (Γ.s.setVm vm0).vm.findClass own = some Γ.m.cls := by rw [show (Γ.s.setVm vm0).vm = vm0 from rfl, hS.1.alike.findClass]; exact hown0
  cases q : if_icmp.holds .ne x y
  · exact Go.of (fun t k => XS.icmpNo X.here hx rfl (hb hby hd) rfl q k) (K' ((hold_ne x y).2 q))
  · exact Go.of (fun t k => XS.icmpYes X.here hx rfl (pc0 := pc) rfl (hb hby hd) rfl q ho hp k) (K ((hold_ne x y).1 q))
theorem k_if_ne {o : Int} {x : Int32} {pc'' : Nat} (G : Ctx Γ Z EL own bytes maxl ret nm rm hs0) (X : W Γ n0 T h C S sf) (hd : decode bytes pc = .ok (.ifCond .ne o, 3)) (hp : ((pc : Int) + o).toNat = pc') (ho : 0 ≤ (pc : Int) + o) (hp' : pc + 3 = pc'') (K : x ≠ 0 → Go Γ n0 Q T (mkF Γ.m pc' Ls st)) (K' : x = 0 → Go Γ n0 Q T (mkF Γ.m pc'' Ls st)) : Go Γ n0 Q T (mkF Γ.m pc Ls (.int x :: st)) := by
  subst hp'
  obtain ⟨hx, hZ0, hown0, hby, hml, hret, hnm, hlk, hR, hsH, hzz, hel, hew⟩ := G
  subst hzz hel
  obtain ⟨aw, hew⟩ := hew
  obtain ⟨L, vm0, k0, X, e, N, hS, hk, HD⟩ := X
  have hZ : Γ.Z.Warmed39 (Γ.s.setVm vm0).vm := State.Warmed39.trans hZ0 hS.1
  have hown : (Γ.s.setVm vm0).vm.findClass own = some Γ.m.cls := by rw [show (Γ.s.setVm vm0).vm = vm0 from rfl, hS.1.alike.findClass]; exact hown0
  cases q : ifCond.holds .ne x
  · exact Go.of (fun t k => XS.ifNo X.here hx rfl (hb hby hd) rfl q k) (K' ((hold0_ne x).2 q))
  · exact Go.of (fun t k => XS.ifYes X.here hx rfl (pc0 := pc) rfl (hb hby hd) rfl q ho hp k) (K ((hold0_ne x).1 q))
theorem hold_lt (x y : Int32) : (if_icmp.holds .lt x y = true → x.toInt < y.toInt) ∧ (if_icmp.holds .lt x y = false → y.toInt ≤ x.toInt) := by
  constructor <;> intro q <;> simp only [if_icmp.holds] at q <;> simp [Int32.lt_iff_toInt_lt, Int32.le_iff_toInt_le] at q ⊢ <;> first | exact q | omega
theorem hold0_lt (x : Int32) : (ifCond.holds .lt x = true → x.toInt < 0) ∧ (ifCond.holds .lt x = false → 0 ≤ x.toInt) := by
  have z := z32
  constructor <;> intro q <;> simp only [ifCond.holds] at q <;> simp [Int32.lt_iff_toInt_lt, Int32.le_iff_toInt_le] at q ⊢ <;> first | exact q | omega
theorem k_icmp_lt {o : Int} {x y : Int32} {pc'' : Nat} (G : Ctx Γ Z EL own bytes maxl ret nm rm hs0) (X : W Γ n0 T h C S sf) (hd : decode bytes pc = .ok (.if_icmp .lt o, 3)) (hp : ((pc : Int) + o).toNat = pc') (ho : 0 ≤ (pc : Int) + o) (hp' : pc + 3 = pc'') (K : x.toInt < y.toInt → Go Γ n0 Q T (mkF Γ.m pc' Ls st)) (K' : y.toInt ≤ x.toInt → Go Γ n0 Q T (mkF Γ.m pc'' Ls st)) : Go Γ n0 Q T (mkF Γ.m pc Ls (.int y :: .int x :: st)) := by
  subst hp'
  obtain ⟨hx, hZ0, hown0, hby, hml, hret, hnm, hlk, hR, hsH, hzz, hel, hew⟩ := G
  subst hzz hel
  obtain ⟨aw, hew⟩ := hew
  obtain ⟨L, vm0, k0, X, e, N, hS, hk, HD⟩ := X
  have hZ : Γ.Z.Warmed39 (Γ.s.setVm vm0).vm := State.Warmed39.trans hZ0 hS.1
  have hown : (Γ.s.setVm vm0).vm.findClass own = some Γ.m.cls := by rw [show (Γ.s.setVm vm0).vm = vm0 from rfl, hS.1.alike.findClass]; exact hown0
  cases q : if_icmp.holds .lt x y
  · exact Go.of (fun t k => XS.icmpNo X.here hx rfl (hb hby hd) rfl q k) (K' ((hold_lt x y).2 q))
  · exact Go.of (fun t k => XS.icmpYes X.here hx rfl (pc0 := pc) rfl (hb hby hd) rfl q ho hp k) (K ((hold_lt x y).1 q))
theorem k_if_lt {o : Int} {x : Int32} {pc'' : Nat} (G : Ctx Γ Z EL own bytes maxl ret nm rm hs0) (X : W Γ n0 T h C S sf) (hd : decode bytes pc = .ok (.ifCond .lt o, 3)) (hp : ((pc : Int) + o).toNat = pc') (ho : 0 ≤ (pc : Int) + o) (hp' : pc + 3 = pc'') (K : x.toInt < 0 → Go Γ n0 Q T (mkF Γ.m pc' Ls st)) (K' : 0 ≤ x.toInt → Go Γ n0 Q T (mkF Γ.m pc'' Ls st)) : Go Γ n0 Q T (mkF Γ.m pc Ls (.int x :: st)) := by
  subst hp'
  obtain ⟨hx, hZ0, hown0, hby, hml, hret, hnm, hlk, hR, hsH, hzz, hel, hew⟩ := G
  subst hzz hel
  obtain ⟨aw, hew⟩ := hew
  obtain ⟨L, vm0, k0, X, e, N, hS, hk, HD⟩ := X
  have hZ : Γ.Z.Warmed39 (Γ.s.setVm vm0).vm := State.Warmed39.trans hZ0 hS.1
  have hown : (Γ.s.setVm vm0).vm.findClass own = some Γ.m.cls := by rw [show (Γ.s.setVm vm0).vm = vm0 from rfl, hS.1.alike.findClass]; exact hown0
  cases q : ifCond.holds .lt x
  · exact Go.of (fun t k => XS.ifNo X.here hx rfl (hb hby hd) rfl q k) (K' ((hold0_lt x).2 q))
  · exact Go.of (fun t k => XS.ifYes X.here hx rfl (pc0 := pc) rfl (hb hby hd) rfl q ho hp k) (K ((hold0_lt x).1 q))
theorem hold_ge (x y : Int32) : (if_icmp.holds .ge x y = true → y.toInt ≤ x.toInt) ∧ (if_icmp.holds .ge x y = false → x.toInt < y.toInt) := by
  constructor <;> intro q <;> simp only [if_icmp.holds] at q <;> simp [Int32.lt_iff_toInt_lt, Int32.le_iff_toInt_le] at q ⊢ <;> first | exact q | omega
theorem hold0_ge (x : Int32) : (ifCond.holds .ge x = true → 0 ≤ x.toInt) ∧ (ifCond.holds .ge x = false → x.toInt < 0) := by
  have z := z32
  constructor <;> intro q <;> simp only [ifCond.holds] at q <;> simp [Int32.lt_iff_toInt_lt, Int32.le_iff_toInt_le] at q ⊢ <;> first | exact q | omega
theorem k_icmp_ge {o : Int} {x y : Int32} {pc'' : Nat} (G : Ctx Γ Z EL own bytes maxl ret nm rm hs0) (X : W Γ n0 T h C S sf) (hd : decode bytes pc = .ok (.if_icmp .ge o, 3)) (hp : ((pc : Int) + o).toNat = pc') (ho : 0 ≤ (pc : Int) + o) (hp' : pc + 3 = pc'') (K : y.toInt ≤ x.toInt → Go Γ n0 Q T (mkF Γ.m pc' Ls st)) (K' : x.toInt < y.toInt → Go Γ n0 Q T (mkF Γ.m pc'' Ls st)) : Go Γ n0 Q T (mkF Γ.m pc Ls (.int y :: .int x :: st)) := by
  subst hp'
  obtain ⟨hx, hZ0, hown0, hby, hml, hret, hnm, hlk, hR, hsH, hzz, hel, hew⟩ := G
  subst hzz hel
  obtain ⟨aw, hew⟩ := hew
  obtain ⟨L, vm0, k0, X, e, N, hS, hk, HD⟩ := X
  have hZ : Γ.Z.Warmed39 (Γ.s.setVm vm0).vm := State.Warmed39.trans hZ0 hS.1
  have hown : (Γ.s.setVm vm0).vm.findClass own = some Γ.m.cls := by rw [show (Γ.s.setVm vm0).vm = vm0 from rfl, hS.1.alike.findClass]; exact hown0
  cases q : if_icmp.holds .ge x y
  · exact Go.of (fun t k => XS.icmpNo X.here hx rfl (hb hby hd) rfl q k) (K' ((hold_ge x y).2 q))
  · exact Go.of (fun t k => XS.icmpYes X.here hx rfl (pc0 := pc) rfl (hb hby hd) rfl q ho hp k) (K ((hold_ge x y).1 q))
theorem k_if_ge {o : Int} {x : Int32} {pc'' : Nat} (G : Ctx Γ Z EL own bytes maxl ret nm rm hs0) (X : W Γ n0 T h C S sf) (hd : decode bytes pc = .ok (.ifCond .ge o, 3)) (hp : ((pc : Int) + o).toNat = pc') (ho : 0 ≤ (pc : Int) + o) (hp' : pc + 3 = pc'') (K : 0 ≤ x.toInt → Go Γ n0 Q T (mkF Γ.m pc' Ls st)) (K' : x.toInt < 0 → Go Γ n0 Q T (mkF Γ.m pc'' Ls st)) : Go Γ n0 Q T (mkF Γ.m pc Ls (.int x :: st)) := by
  subst hp'
  obtain ⟨hx, hZ0, hown0, hby, hml, hret, hnm, hlk, hR, hsH, hzz, hel, hew⟩ := G
  subst hzz hel
  obtain ⟨aw, hew⟩ := hew
  obtain ⟨L, vm0, k0, X, e, N, hS, hk, HD⟩ := X
  have hZ : Γ.Z.Warmed39 (Γ.s.setVm vm0).vm := State.Warmed39.trans hZ0 hS.1
  have hown : (Γ.s.setVm vm0).vm.findClass own = some Γ.m.cls := by rw [show (Γ.s.setVm vm0).vm = vm0 from rfl, hS.1.alike.findClass]; exact hown0
  cases q : ifCond.holds .ge x
  · exact Go.of (fun t k => XS.ifNo X.here hx rfl (hb hby hd) rfl q k) (K' ((hold0_ge x).2 q))
  · exact Go.of (fun t k => XS.ifYes X.here hx rfl (pc0 := pc) rfl (hb hby hd) rfl q ho hp k) (K ((hold0_ge x).1 q))
theorem hold_gt (x y : Int32) : (if_icmp.holds .gt x y = true → y.toInt < x.toInt) ∧ (if_icmp.holds .gt x y = false → x.toInt ≤ y.toInt) := by
  constructor <;> intro q <;> simp only [if_icmp.holds] at q <;> simp [Int32.lt_iff_toInt_lt, Int32.le_iff_toInt_le] at q ⊢ <;> first | exact q | omega
theorem hold0_gt (x : Int32) : (ifCond.holds .gt x = true → 0 < x.toInt) ∧ (ifCond.holds .gt x = false → x.toInt ≤ 0) := by
  have z := z32
  constructor <;> intro q <;> simp only [ifCond.holds] at q <;> simp [Int32.lt_iff_toInt_lt, Int32.le_iff_toInt_le] at q ⊢ <;> first | exact q | omega
theorem k_icmp_gt {o : Int} {x y : Int32} {pc'' : Nat} (G : Ctx Γ Z EL own bytes maxl ret nm rm hs0) (X : W Γ n0 T h C S sf) (hd : decode bytes pc = .ok (.if_icmp .gt o, 3)) (hp : ((pc : Int) + o).toNat = pc') (ho : 0 ≤ (pc : Int) + o) (hp' : pc + 3 = pc'') (K : y.toInt < x.toInt → Go Γ n0 Q T (mkF Γ.m pc' Ls st)) (K' : x.toInt ≤ y.toInt → Go Γ n0 Q T (mkF Γ.m pc'' Ls st)) : Go Γ n0 Q T (mkF Γ.m pc Ls (.int y :: .int x :: st)) := by
  subst hp'
  obtain ⟨hx, hZ0, hown0, hby, hml, hret, hnm, hlk, hR, hsH, hzz, hel, hew⟩ := G
  subst hzz hel
  obtain ⟨aw, hew⟩ := hew
  obtain ⟨L, vm0, k0, X, e, N, hS, hk, HD⟩ := X
  have hZ : Γ.Z.Warmed39 (Γ.s.setVm vm0).vm := State.Warmed39.trans hZ0 hS.1
  have hown : (Γ.s.setVm vm0).vm.findClass own = some Γ.m.cls := by rw [show (Γ.s.setVm vm0).vm = vm0 from rfl, hS.1.alike.findClass]; exact hown0
  cases q : if_icmp.holds .gt x y
  · exact Go.of (fun t k => XS.icmpNo X.here hx rfl (hb hby hd) rfl q k) (K' ((hold_gt x y).2 q))
  · exact Go.of (fun t k => XS.icmpYes X.here hx rfl (pc0 := pc) rfl (hb hby hd) rfl q ho hp k) (K ((hold_gt x y).1 q))
theorem k_if_gt {o : Int} {x : Int32} {pc'' : Nat} (G : Ctx Γ Z EL own bytes maxl ret nm rm hs0) (X : W Γ n0 T h C S sf) (hd : decode bytes pc = .ok (.ifCond .gt o, 3)) (hp : ((pc : Int) + o).toNat = pc') (ho : 0 ≤ (pc : Int) + o) (hp' : pc + 3 = pc'') (K : 0 < x.toInt → Go Γ n0 Q T (mkF Γ.m pc' Ls st)) (K' : x.toInt ≤ 0 → Go Γ n0 Q T (mkF Γ.m pc'' Ls st)) : Go Γ n0 Q T (mkF Γ.m pc Ls (.int x :: st)) := by
  subst hp'
  obtain ⟨hx, hZ0, hown0, hby, hml, hret, hnm, hlk, hR, hsH, hzz, hel, hew⟩ := G
  subst hzz hel
  obtain ⟨aw, hew⟩ := hew
  obtain ⟨L, vm0, k0, X, e, N, hS, hk, HD⟩ := X
  have hZ : Γ.Z.Warmed39 (Γ.s.setVm vm0).vm := State.Warmed39.trans hZ0 hS.1
  have hown : (Γ.s.setVm vm0).vm.findClass own = some Γ.m.cls := by rw [show (Γ.s.setVm vm0).vm = vm0 from rfl, hS.1.alike.findClass]; exact hown0
  cases q : ifCond.holds .gt x
  · exact Go.of (fun t k => XS.ifNo X.here hx rfl (hb hby hd) rfl q k) (K' ((hold0_gt x).2 q))
  · exact Go.of (fun t k => XS.ifYes X.here hx rfl (pc0 := pc) rfl (hb hby hd) rfl q ho hp k) (K ((hold0_gt x).1 q))
theorem hold_le (x y : Int32) : (if_icmp.holds .le x y = true → x.toInt ≤ y.toInt) ∧ (if_icmp.holds .le x y = false → y.toInt < x.toInt) := by
  constructor <;> intro q <;> simp only [if_icmp.holds] at q <;> simp [Int32.lt_iff_toInt_lt, Int32.le_iff_toInt_le] at q ⊢ <;> first | exact q | omega
theorem hold0_le (x : Int32) : (ifCond.holds .le x = true → x.toInt ≤ 0) ∧ (ifCond.holds .le x = false → 0 < x.toInt) := by
  have z := z32
  constructor <;> intro q <;> simp only [ifCond.holds] at q <;> simp [Int32.lt_iff_toInt_lt, Int32.le_iff_toInt_le] at q ⊢ <;> first | exact q | omega
theorem k_icmp_le {o : Int} {x y : Int32} {pc'' : Nat} (G : Ctx Γ Z EL own bytes maxl ret nm rm hs0) (X : W Γ n0 T h C S sf) (hd : decode bytes pc = .ok (.if_icmp .le o, 3)) (hp : ((pc : Int) + o).toNat = pc') (ho : 0 ≤ (pc : Int) + o) (hp' : pc + 3 = pc'') (K : x.toInt ≤ y.toInt → Go Γ n0 Q T (mkF Γ.m pc' Ls st)) (K' : y.toInt < x.toInt → Go Γ n0 Q T (mkF Γ.m pc'' Ls st)) : Go Γ n0 Q T (mkF Γ.m pc Ls (.int y :: .int x :: st)) := by
  subst hp'
  obtain ⟨hx, hZ0, hown0, hby, hml, hret, hnm, hlk, hR, hsH, hzz, hel, hew⟩ := G
  subst hzz hel
  obtain ⟨aw, hew⟩ := hew
  obtain ⟨L, vm0, k0, X, e, N, hS, hk, HD⟩ := X
  have hZ : Γ.Z.Warmed39 (Γ.s.setVm vm0).vm := State.Warmed39.trans hZ0 hS.1
  have hown : (Γ.s.setVm vm0).vm.findClass own = some Γ.m.cls := by rw [show (Γ.s.setVm vm0).vm = vm0 from rfl, hS.1.alike.findClass]; exact hown0
  cases q : if_icmp.holds .le x y
  · exact Go.of (fun t k => XS.icmpNo X.here hx rfl (hb hby hd) rfl q k) (K' ((hold_le x y).2 q))
  · exact Go.of (fun t k => XS.icmpYes X.here hx rfl (pc0 := pc) rfl (hb hby hd) rfl q ho hp k) (K ((hold_le x y).1 q))
theorem k_if_le {o : Int} {x : Int32} {pc'' : Nat} (G : Ctx Γ Z EL own bytes maxl ret nm rm hs0) (X : W Γ n0 T h C S sf) (hd : decode bytes pc = .ok (.ifCond .le o, 3)) (hp : ((pc : Int) + o).toNat = pc') (ho : 0 ≤ (pc : Int) + o) (hp' : pc + 3 = pc'') (K : x.toInt ≤ 0 → Go Γ n0 Q T (mkF Γ.m pc' Ls st)) (K' : 0 < x.toInt → Go Γ n0 Q T (mkF Γ.m pc'' Ls st)) : Go Γ n0 Q T (mkF Γ.m pc Ls (.int x :: st)) := by
  subst hp'
  obtain ⟨hx, hZ0, hown0, hby, hml, hret, hnm, hlk, hR, hsH, hzz, hel, hew⟩ := G
  subst hzz hel
  obtain ⟨aw, hew⟩ := hew
  obtain ⟨L, vm0, k0, X, e, N, hS, hk, HD⟩ := X
  have hZ : Γ.Z.Warmed39 (Γ.s.setVm vm0).vm := State.Warmed39.trans hZ0 hS.1
  have hown : (Γ.s.setVm vm0).vm.findClass own = some Γ.m.cls := by rw [show (Γ.s.setVm vm0).vm = vm0 from rfl, hS.1.alike.findClass]; exact hown0
  cases q : ifCond.holds .le x
  · exact Go.of (fun t k => XS.ifNo X.here hx rfl (hb hby hd) rfl q k) (K' ((hold0_le x).2 q))
  · exact Go.of (fun t k => XS.ifYes X.here hx rfl (pc0 := pc) rfl (hb hby hd) rfl q ho hp k) (K ((hold0_le x).1 q))
theorem k_acmp_eq {o : Int} {x y : Value} {pc'' : Nat} (G : Ctx Γ Z EL own bytes maxl ret nm rm hs0) (X : W Γ n0 T h C S sf) (hd : decode bytes pc = .ok (.if_acmp .eq o, 3)) (hp : ((pc : Int) + o).toNat = pc') (ho : 0 ≤ (pc : Int) + o) (hp' : pc + 3 = pc'') (h1 : x.isRef = true) (h2 : y.isRef = true) (K : x = y → Go Γ n0 Q T (mkF Γ.m pc' Ls st)) (K' : x ≠ y → Go Γ n0 Q T (mkF Γ.m pc'' Ls st)) : Go Γ n0 Q T (mkF Γ.m pc Ls (y :: x :: st)) := by
  subst hp hp'
  obtain ⟨hx, hZ0, hown0, hby, hml, hret, hnm, hlk, hR, hsH, hzz, hel, hew⟩ := G
  subst hzz hel
  obtain ⟨aw, hew⟩ := hew
  obtain ⟨L, vm0, k0, X, e, N, hS, hk, HD⟩ := X
  have hZ : Γ.Z.Warmed39 (Γ.s.setVm vm0).vm := State.Warmed39.trans hZ0 hS.1
  have hown : (Γ.s.setVm vm0).vm.findClass own = some Γ.m.cls := by rw [show (Γ.s.setVm vm0).vm = vm0 from rfl, hS.1.alike.findClass]; exact hown0
  by_cases q : x = y
  · exact Go.of (fun t k => acmp (g := mkF Γ.m pc Ls (y :: x :: st)) X hx rfl h1 h2 (pc0 := pc) (same := true) rfl (hb hby hd) rfl (decide_eq_true q) ho rfl k) (K q)
  · exact Go.of (fun t k => acmp (g := mkF Γ.m pc Ls (y :: x :: st)) X hx rfl h1 h2 (pc0 := pc) (same := false) rfl (hb hby hd) rfl (decide_eq_false q) ho rfl k) (K' q)
theorem k_acmp_ne {o : Int} {x y : Value} {pc'' : Nat} (G : Ctx Γ Z EL own bytes maxl ret nm rm hs0) (X : W Γ n0 T h C S sf) (hd : decode bytes pc = .ok (.if_acmp .ne o, 3)) (hp : ((pc : Int) + o).toNat = pc') (ho : 0 ≤ (pc : Int) + o) (hp' : pc + 3 = pc'') (h1 : x.isRef = true) (h2 : y.isRef = true) (K : x ≠ y → Go Γ n0 Q T (mkF Γ.m pc' Ls st)) (K' : x = y → Go Γ n0 Q T (mkF Γ.m pc'' Ls st)) : Go Γ n0 Q T (mkF Γ.m pc Ls (y :: x :: st)) := by
  subst hp hp'
  obtain ⟨hx, hZ0, hown0, hby, hml, hret, hnm, hlk, hR, hsH, hzz, hel, hew⟩ := G
  subst hzz hel
  obtain ⟨aw, hew⟩ := hew
  obtain ⟨L, vm0, k0, X, e, N, hS, hk, HD⟩ := X
  have hZ : Γ.Z.Warmed39 (Γ.s.setVm vm0).vm := State.Warmed39.trans hZ0 hS.1
  have hown : (Γ.s.setVm vm0).vm.findClass own = some Γ.m.cls := by rw [show (Γ.s.setVm vm0).vm = vm0 from rfl, hS.1.alike.findClass]; exact hown0
  by_cases q : x = y
  · exact Go.of (fun t k => acmp (g := mkF Γ.m pc Ls (y :: x :: st)) X hx rfl h1 h2 (pc0 := pc) (same := true) rfl (hb hby hd) rfl (decide_eq_true q) ho rfl k) (K' q)
  · exact Go.of (fun t k => acmp (g := mkF Γ.m pc Ls (y :: x :: st)) X hx rfl h1 h2 (pc0 := pc) (same := false) rfl (hb hby hd) rfl (decide_eq_false q) ho rfl k) (K q)
theorem k_ifnull {o : Int} {x : Value} {pc'' : Nat} (G : Ctx Γ Z EL own bytes maxl ret nm rm hs0) (X : W Γ n0 T h C S sf) (hd : decode bytes pc = .ok (.ifnull o, 3)) (hp : ((pc : Int) + o).toNat = pc') (ho : 0 ≤ (pc : Int) + o) (hp' : pc + 3 = pc'') (h1 : x.isRef = true) (K : x = .null → Go Γ n0 Q T (mkF Γ.m pc' Ls st)) (K' : ∀ a, x = .ref a → Go Γ n0 Q T (mkF Γ.m pc'' Ls st)) : Go Γ n0 Q T (mkF Γ.m pc Ls (x :: st)) := by
  subst hp'
  obtain ⟨hx, hZ0, hown0, hby, hml, hret, hnm, hlk, hR, hsH, hzz, hel, hew⟩ := G
  subst hzz hel
  obtain ⟨aw, hew⟩ := hew
  obtain ⟨L, vm0, k0, X, e, N, hS, hk, HD⟩ := X
  have hZ : Γ.Z.Warmed39 (Γ.s.setVm vm0).vm := State.Warmed39.trans hZ0 hS.1
  have hown : (Γ.s.setVm vm0).vm.findClass own = some Γ.m.cls := by rw [show (Γ.s.setVm vm0).vm = vm0 from rfl, hS.1.alike.findClass]; exact hown0
  rcases ref_cases h1 with rfl | ⟨a, rfl⟩
  · exact Go.of (fun t k => XS.ifnullYes X.here hx rfl (pc0 := pc) rfl (hb hby hd) rfl ho hp k) (K rfl)
  · exact Go.of (fun t k => XS.ifnullNo X.here hx rfl (hb hby hd) rfl k) (K' a rfl)
theorem k_ifnonnull {o : Int} {x : Value} {pc'' : Nat} (G : Ctx Γ Z EL own bytes maxl ret nm rm hs0) (X : W Γ n0 T h C S sf) (hd : decode bytes pc = .ok (.ifnonnull o, 3)) (hp : ((pc : Int) + o).toNat = pc') (ho : 0 ≤ (pc : Int) + o) (hp' : pc + 3 = pc'') (h1 : x.isRef = true) (K : ∀ a, x = .ref a → Go Γ n0 Q T (mkF Γ.m pc' Ls st)) (K' : x = .null → Go Γ n0 Q T (mkF Γ.m pc'' Ls st)) : Go Γ n0 Q T (mkF Γ.m pc Ls (x :: st)) := by
  subst hp'
  obtain ⟨hx, hZ0, hown0, hby, hml, hret, hnm, hlk, hR, hsH, hzz, hel, hew⟩ := G
  subst hzz hel
  obtain ⟨aw, hew⟩ := hew
  obtain ⟨L, vm0, k0, X, e, N, hS, hk, HD⟩ := X
  have hZ : Γ.Z.Warmed39 (Γ.s.setVm vm0).vm := State.Warmed39.trans hZ0 hS.1
  have hown : (Γ.s.setVm vm0).vm.findClass own = some Γ.m.cls := by rw [show (Γ.s.setVm vm0).vm = vm0 from rfl, hS.1.alike.findClass]; exact hown0
  rcases ref_cases h1 with rfl | ⟨a, rfl⟩
  · exact Go.of (fun t k => XS.ifnonnullNo X.here hx rfl (hb hby hd) rfl k) (K' rfl)
  · exact Go.of (fun t k => XS.ifnonnullYes X.here hx rfl (pc0 := pc) rfl (hb hby hd) rfl ho hp k) (K a rfl)
theorem k_lswHit {k : Int32} {dflt : Int} {pairs : Array (Int × Int)} {len : Nat} {a off : Int} (G : Ctx Γ Z EL own bytes maxl ret nm rm hs0) (X : W Γ n0 T h C S sf) (hd : decode bytes pc = .ok (.lookupswitch dflt pairs, len)) (hs : (pairs.toList.zip (pairs.toList.drop 1)).all (fun (a, next) => a.1 < next.1) = true) (hf : pairs.find? (·.1 == k.toInt) = some (a, off)) (ho : 0 ≤ (pc : Int) + off) (hp : ((pc : Int) + off).toNat = pc') (K : Go Γ n0 Q T (mkF Γ.m pc' Ls st)) : Go Γ n0 Q T (mkF Γ.m pc Ls (.int k :: st)) := by
  subst hp
  obtain ⟨hx, hZ0, hown0, hby, hml, hret, hnm, hlk, hR, hsH, hzz, hel, hew⟩ := G
  subst hzz hel
  obtain ⟨aw, hew⟩ := hew
  obtain ⟨L, vm0, k0, X, e, N, hS, hk, HD⟩ := X
  have hZ : Γ.Z.Warmed39 (Γ.s.setVm vm0).vm := State.Warmed39.trans hZ0 hS.1
  have hown : (Γ.s.setVm vm0).vm.findClass own = some Γ.m.cls := by rw [show (Γ.s.setVm vm0).vm = vm0 from rfl, hS.1.alike.findClass]; exact hown0
  exact Go.of (fun t k' => X.lookupswitchHit hx (g := mkF Γ.m pc Ls (.int k :: st)) rfl rfl (hb hby hd) hs hf ho t k') K
theorem k_lswMiss {k : Int32} {dflt : Int} {pairs : Array (Int × Int)} {len : Nat} (G : Ctx Γ Z EL own bytes maxl ret nm rm hs0) (X : W Γ n0 T h C S sf) (hd : decode bytes pc = .ok (.lookupswitch dflt pairs, len)) (hs : (pairs.toList.zip (pairs.toList.drop 1)).all (fun (a, next) => a.1 < next.1) = true) (hf : pairs.find? (·.1 == k.toInt) = none) (ho : 0 ≤ (pc : Int) + dflt) (hp : ((pc : Int) + dflt).toNat = pc') (K : Go Γ n0 Q T (mkF Γ.m pc' Ls st)) : Go Γ n0 Q T (mkF Γ.m pc Ls (.int k :: st)) := by
  subst hp
  obtain ⟨hx, hZ0, hown0, hby, hml, hret, hnm, hlk, hR, hsH, hzz, hel, hew⟩ := G
  subst hzz hel
  obtain ⟨aw, hew⟩ := hew
  obtain ⟨L, vm0, k0, X, e, N, hS, hk, HD⟩ := X
  have hZ : Γ.Z.Warmed39 (Γ.s.setVm vm0).vm := State.Warmed39.trans hZ0 hS.1
  have hown : (Γ.s.setVm vm0).vm.findClass own = some Γ.m.cls := by rw [show (Γ.s.setVm vm0).vm = vm0 from rfl, hS.1.alike.findClass]; exact hown0
  exact Go.of (fun t k' => X.lookupswitchMiss hx (g := mkF Γ.m pc Ls (.int k :: st)) rfl rfl (hb hby hd) hs hf ho t k') K
theorem k_tswIn {k : Int32} {dflt low high : Int} {offs : Array Int} {len : Nat} {off : Int} (G : Ctx Γ Z EL own bytes maxl ret nm rm hs0) (X : W Γ n0 T h C S sf) (hd : decode bytes pc = .ok (.tableswitch dflt low high offs, len)) (hin : low ≤ k.toInt ∧ k.toInt ≤ high) (hf : offs[(k.toInt - low).toNat]? = some off) (ho : 0 ≤ (pc : Int) + off) (hp : ((pc : Int) + off).toNat = pc') (K : Go Γ n0 Q T (mkF Γ.m pc' Ls st)) : Go Γ n0 Q T (mkF Γ.m pc Ls (.int k :: st)) := by
  subst hp
  obtain ⟨hx, hZ0, hown0, hby, hml, hret, hnm, hlk, hR, hsH, hzz, hel, hew⟩ := G
  subst hzz hel
  obtain ⟨aw, hew⟩ := hew
  obtain ⟨L, vm0, k0, X, e, N, hS, hk, HD⟩ := X
  have hZ : Γ.Z.Warmed39 (Γ.s.setVm vm0).vm := State.Warmed39.trans hZ0 hS.1
  have hown : (Γ.s.setVm vm0).vm.findClass own = some Γ.m.cls := by rw [show (Γ.s.setVm vm0).vm = vm0 from rfl, hS.1.alike.findClass]; exact hown0
  exact Go.of (fun t k' => X.tableswitchIn hx (g := mkF Γ.m pc Ls (.int k :: st)) rfl rfl (hb hby hd) (by omega) hf ho t k') K
theorem k_tswOut {k : Int32} {dflt low high : Int} {offs : Array Int} {len : Nat} (G : Ctx Γ Z EL own bytes maxl ret nm rm hs0) (X : W Γ n0 T h C S sf) (hd : decode bytes pc = .ok (.tableswitch dflt low high offs, len)) (hout : k.toInt < low ∨ high < k.toInt) (ho : 0 ≤ (pc : Int) + dflt) (hp : ((pc : Int) + dflt).toNat = pc') (K : Go Γ n0 Q T (mkF Γ.m pc' Ls st)) : Go Γ n0 Q T (mkF Γ.m pc Ls (.int k :: st)) := by
  subst hp
  obtain ⟨hx, hZ0, hown0, hby, hml, hret, hnm, hlk, hR, hsH, hzz, hel, hew⟩ := G
  subst hzz hel
  obtain ⟨aw, hew⟩ := hew
  obtain ⟨L, vm0, k0, X, e, N, hS, hk, HD⟩ := X
  have hZ : Γ.Z.Warmed39 (Γ.s.setVm vm0).vm := State.Warmed39.trans hZ0 hS.1
  have hown : (Γ.s.setVm vm0).vm.findClass own = some Γ.m.cls := by rw [show (Γ.s.setVm vm0).vm = vm0 from rfl, hS.1.alike.findClass]; exact hown0
  exact Go.of (fun t k' => X.tableswitchOut hx (g := mkF Γ.m pc Ls (.int k :: st)) rfl rfl (hb hby hd) hout ho t k') K
theorem k_ldcI {a0 : Array Value} {idx : Nat} {v : Int32} (G : Ctx Γ Z EL own bytes maxl ret nm rm hs0) (X : W Γ n0 T h C S sf) (w : (Cond.constant own idx v).before a0 Z = true) (hd : decode bytes pc = .ok (.ldc idx, 2)) (hp : pc + 2 = pc') (K : Go Γ n0 Q T (mkF Γ.m pc' Ls (.int v :: st))) : Go Γ n0 Q T (mkF Γ.m pc Ls st) := by
  subst hp
  obtain ⟨hx, hZ0, hown0, hby, hml, hret, hnm, hlk, hR, hsH, hzz, hel, hew⟩ := G
  subst hzz hel
  obtain ⟨aw, hew⟩ := hew
  obtain ⟨L, vm0, k0, X, e, N, hS, hk, HD⟩ := X
  have hZ : Γ.Z.Warmed39 (Γ.s.setVm vm0).vm := State.Warmed39.trans hZ0 hS.1
  have hown : (Γ.s.setVm vm0).vm.findClass own = some Γ.m.cls := by rw [show (Γ.s.setVm vm0).vm = vm0 from rfl, hS.1.alike.findClass]; exact hown0
  exact Go.of (fun t k => X.ldcInt hx hown (mvT hZ w) (g := mkF Γ.m pc Ls st) rfl (hb hby hd) t k) K
theorem k_ldcwI {a0 : Array Value} {idx : Nat} {v : Int32} (G : Ctx Γ Z EL own bytes maxl ret nm rm hs0) (X : W Γ n0 T h C S sf) (w : (Cond.constant own idx v).before a0 Z = true) (hd : decode bytes pc = .ok (.ldc_w idx, 3)) (hp : pc + 3 = pc') (K : Go Γ n0 Q T (mkF Γ.m pc' Ls (.int v :: st))) : Go Γ n0 Q T (mkF Γ.m pc Ls st) := by
  subst hp
  obtain ⟨hx, hZ0, hown0, hby, hml, hret, hnm, hlk, hR, hsH, hzz, hel, hew⟩ := G
  subst hzz hel
  obtain ⟨aw, hew⟩ := hew
  obtain ⟨L, vm0, k0, X, e, N, hS, hk, HD⟩ := X
  have hZ : Γ.Z.Warmed39 (Γ.s.setVm vm0).vm := State.Warmed39.trans hZ0 hS.1
  have hown : (Γ.s.setVm vm0).vm.findClass own = some Γ.m.cls := by rw [show (Γ.s.setVm vm0).vm = vm0 from rfl, hS.1.alike.findClass]; exact hown0
  exact Go.of (fun t k => X.ldcwInt hx hown (mvT hZ w) (g := mkF Γ.m pc Ls st) rfl (hb hby hd) t k) K
theorem k_ldcL {a0 : Array Value} {idx : Nat} {v : Int64} (G : Ctx Γ Z EL own bytes maxl ret nm rm hs0) (X : W Γ n0 T h C S sf) (w : (Cond.constantLong own idx v).before a0 Z = true) (hd : decode bytes pc = .ok (.ldc2_w idx, 3)) (hp : pc + 3 = pc') (K : Go Γ n0 Q T (mkF Γ.m pc' Ls (.long v :: st))) : Go Γ n0 Q T (mkF Γ.m pc Ls st) := by
  subst hp
  obtain ⟨hx, hZ0, hown0, hby, hml, hret, hnm, hlk, hR, hsH, hzz, hel, hew⟩ := G
  subst hzz hel
  obtain ⟨aw, hew⟩ := hew
  obtain ⟨L, vm0, k0, X, e, N, hS, hk, HD⟩ := X
  have hZ : Γ.Z.Warmed39 (Γ.s.setVm vm0).vm := State.Warmed39.trans hZ0 hS.1
  have hown : (Γ.s.setVm vm0).vm.findClass own = some Γ.m.cls := by rw [show (Γ.s.setVm vm0).vm = vm0 from rfl, hS.1.alike.findClass]; exact hown0
  exact Go.of (fun t k => X.ldc2Long hx hown (mvT hZ w) (g := mkF Γ.m pc Ls st) rfl (hb hby hd) t k) K
theorem k_getS {a0 : Array Value} {idx : Nat} {R0 O n d host : String} {v : Value} (G : Ctx Γ Z EL own bytes maxl ret nm rm hs0) (X : W Γ n0 T h C S sf) (w : (Cond.fieldLink own idx R0 n d).before a0 Z = true ∨ (Cond.fieldLinkNest own idx R0 n d host).before a0 Z = true) (via : Via Z R0 O n d) (F : Sta Z h O n d v) (hd : decode bytes pc = .ok (.getstatic idx, 3)) (hp : pc + 3 = pc') (K : ∀ T, W Γ n0 T h C S sf → Go Γ n0 Q T (mkF Γ.m pc' Ls (v :: st))) : Go Γ n0 Q T (mkF Γ.m pc Ls st) := by
  subst hp
  obtain ⟨hx, hZ0, hown0, hby, hml, hret, hnm, hlk, hR, hsH, hzz, hel, hew⟩ := G
  subst hzz hel
  obtain ⟨aw, hew⟩ := hew
  obtain ⟨L, vm0, k0, X, e, N, hS, hk, HD⟩ := X
  have hZ : Γ.Z.Warmed39 (Γ.s.setVm vm0).vm := State.Warmed39.trans hZ0 hS.1
  have hown : (Γ.s.setVm vm0).vm.findClass own = some Γ.m.cls := by rw [show (Γ.s.setVm vm0).vm = vm0 from rfl, hS.1.alike.findClass]; exact hown0
  obtain ⟨T', X', e', st'⟩ := getS2 X hx hZ hown w via e F (g := mkF Γ.m pc Ls st) rfl (hb hby hd)
  exact Go.of st' (K T' ⟨L, vm0, k0, X', e', N, hS, hk, HD⟩)
theorem k_getF {a0 : Array Value} {idx : Nat} {R0 O n d host : String} {v : Value} {a : Addr} (G : Ctx Γ Z EL own bytes maxl ret nm rm hs0) (X : W Γ n0 T h C S sf) (w : (Cond.fieldLink own idx R0 n d).before a0 Z = true ∨ (Cond.fieldLinkNest own idx R0 n d host).before a0 Z = true) (via : Via Z R0 O n d) (F : Fld Z h a O n d v) (hd : decode bytes pc = .ok (.getfield idx, 3)) (hp : pc + 3 = pc') (K : ∀ T, W Γ n0 T h C S sf → Go Γ n0 Q T (mkF Γ.m pc' Ls (v :: st))) : Go Γ n0 Q T (mkF Γ.m pc Ls (.ref a :: st)) := by
  subst hp
  obtain ⟨hx, hZ0, hown0, hby, hml, hret, hnm, hlk, hR, hsH, hzz, hel, hew⟩ := G
  subst hzz hel
  obtain ⟨aw, hew⟩ := hew
  obtain ⟨L, vm0, k0, X, e, N, hS, hk, HD⟩ := X
  have hZ : Γ.Z.Warmed39 (Γ.s.setVm vm0).vm := State.Warmed39.trans hZ0 hS.1
  have hown : (Γ.s.setVm vm0).vm.findClass own = some Γ.m.cls := by rw [show (Γ.s.setVm vm0).vm = vm0 from rfl, hS.1.alike.findClass]; exact hown0
  obtain ⟨T', X', e', st'⟩ := getF X hx hZ hown w via e F (g := mkF Γ.m pc Ls (.ref a :: st)) rfl rfl (hb hby hd)
  exact Go.of st' (K T' ⟨L, vm0, k0, X', e', N, hS, hk, HD⟩)
theorem k_putF {a0 : Array Value} {idx kk : Nat} {R0 O n d host CC : String} {v old : Value} {ty : FieldType} {a : Addr} (G : Ctx Γ Z EL own bytes maxl ret nm rm hs0) (X : W Γ n0 T h C S sf) (w : (Cond.fieldLink own idx R0 n d).before a0 Z = true ∨ (Cond.fieldLinkNest own idx R0 n d host).before a0 Z = true) (via : Via Z R0 O n d) (F : Fld Z h a O n d old) (E : Exa Z h a CC) (lay : (Cond.lays CC O n d).before a0 Z = true ∨ ((Cond.laysFinal CC O n d).before a0 Z = true ∧ own = O ∧ nm = "<init>")) (wi : (Cond.instantiable CC kk).before a0 Z = true) (ht : parseFieldDescriptor d = some ty) (hn : narrow ty v = v) (hf : fits ty v = true) (ga : n0 ≤ a) (ms : a ∈ sf) (hd : decode bytes pc = .ok (.putfield idx, 3)) (hp : pc + 3 = pc') (K : ∀ T h', Wr h h' a (Jvm.RoadKit.slotOf Z O n d) v → W Γ n0 T h' C S sf → Go Γ n0 Q T (mkF Γ.m pc' Ls st)) : Go Γ n0 Q T (mkF Γ.m pc Ls (v :: .ref a :: st)) := by
  subst hp
  obtain ⟨hx, hZ0, hown0, hby, hml, hret, hnm, hlk, hR, hsH, hzz, hel, hew⟩ := G
  subst hzz hel
  obtain ⟨aw, hew⟩ := hew
  obtain ⟨L, vm0, k0, X, e, N, hS, hk, HD⟩ := X
  have hZ : Γ.Z.Warmed39 (Γ.s.setVm vm0).vm := State.Warmed39.trans hZ0 hS.1
  have hown : (Γ.s.setVm vm0).vm.findClass own = some Γ.m.cls := by rw [show (Γ.s.setVm vm0).vm = vm0 from rfl, hS.1.alike.findClass]; exact hown0
  obtain ⟨T', h', X', e', W', st'⟩ := putF X hx hZ hown w via e F E (by rw [hnm]; exact lay) wi ht hn hf (g := mkF Γ.m pc Ls (v :: .ref a :: st)) rfl rfl (hb hby hd)
  exact Go.of st' (K T' h' W' ⟨_, vm0, k0, X', e', Fr.snoc X' N ga, hS, (by rw [W'.size]; exact hk), HD.wr W' ms⟩)
theorem k_putFN {a0 : Array Value} {idx kk : Nat} {R0 O n d CC : String} {v v' old : Value} {ty : FieldType} {a : Addr} (G : Ctx Γ Z EL own bytes maxl ret nm rm hs0) (X : W Γ n0 T h C S sf) (w : (Cond.fieldLink own idx R0 n d).before a0 Z = true) (via : Via Z R0 O n d) (F : Fld Z h a O n d old) (E : Exa Z h a CC) (lay : (Cond.lays CC O n d).before a0 Z = true ∨ ((Cond.laysFinal CC O n d).before a0 Z = true ∧ own = O ∧ nm = "<init>")) (wi : (Cond.instantiable CC kk).before a0 Z = true) (ht : parseFieldDescriptor d = some ty) (hn : narrow ty v = v') (hf : fits ty v' = true) (ga : n0 ≤ a) (ms : a ∈ sf) (hd : decode bytes pc = .ok (.putfield idx, 3)) (hp : pc + 3 = pc') (K : ∀ T h', Wr h h' a (Jvm.RoadKit.slotOf Z O n d) v' → W Γ n0 T h' C S sf → Go Γ n0 Q T (mkF Γ.m pc' Ls st)) : Go Γ n0 Q T (mkF Γ.m pc Ls (v :: .ref a :: st)) := by
  subst hp
  obtain ⟨hx, hZ0, hown0, hby, hml, hret, hnm, hlk, hR, hsH, hzz, hel, hew⟩ := G
  subst hzz hel
  obtain ⟨aw, hew⟩ := hew
  obtain ⟨L, vm0, k0, X, e, N, hS, hk, HD⟩ := X
  have hZ : Γ.Z.Warmed39 (Γ.s.setVm vm0).vm := State.Warmed39.trans hZ0 hS.1
  have hown : (Γ.s.setVm vm0).vm.findClass own = some Γ.m.cls := by rw [show (Γ.s.setVm vm0).vm = vm0 from rfl, hS.1.alike.findClass]; exact hown0
  obtain ⟨T', h', X', e', W', st'⟩ := putFN X hx hZ hown w via e F E (by rw [hnm]; exact lay) wi ht hn hf (g := mkF Γ.m pc Ls (v :: .ref a :: st)) rfl rfl (hb hby hd)
  exact Go.of st' (K T' h' W' ⟨_, vm0, k0, X', e', Fr.snoc X' N ga, hS, (by rw [W'.size]; exact hk), HD.wr W' ms⟩)
theorem k_new {a0 : Array Value} {idx k : Nat} {CC : String} (G : Ctx Γ Z EL own bytes maxl ret nm rm hs0) (X : W Γ n0 T h C S sf) (w : (Cond.classLink own idx CC).before a0 Z = true) (wi : (Cond.instantiable CC k).before a0 Z = true) (wz : (Cond.initialized CC).before a0 Z = true) (hd : decode bytes pc = .ok (.new idx, 3)) (hp : pc + 3 = pc') (hc : C + 1 ≤ rm.cells) (hs : S + k ≤ rm.slots)
    (K : ∀ T h' a, h.size = a → Ext h h' → Exa Z h' a CC → (∀ {O nm d : String} {ty : FieldType}, Laid Z a0 CC O nm d → parseFieldDescriptor d = some ty → Fld Z h' a O nm d (defaultValue ty)) → W Γ n0 T h' (C + 1) (S + k) (a :: sf) → Go Γ n0 Q T (mkF Γ.m pc' Ls (.ref a :: st))) : Go Γ n0 Q T (mkF Γ.m pc Ls st) := by
  subst hp
  obtain ⟨hx, hZ0, hown0, hby, hml, hret, hnm, hlk, hR, hsH, hzz, hel, hew⟩ := G
  subst hzz hel
  obtain ⟨aw, hew⟩ := hew
  obtain ⟨L, vm0, k0, X, e, N, hS, hk, HD⟩ := X
  have hZ : Γ.Z.Warmed39 (Γ.s.setVm vm0).vm := State.Warmed39.trans hZ0 hS.1
  have hown : (Γ.s.setVm vm0).vm.findClass own = some Γ.m.cls := by rw [show (Γ.s.setVm vm0).vm = vm0 from rfl, hS.1.alike.findClass]; exact hown0
  obtain ⟨T', h', X', e', E', A', D', -, st'⟩ := newO X hx hZ hown w wi wz e (g := mkF Γ.m pc Ls st) rfl (hb hby hd) (hR ▸ hc) (hR ▸ hs)
  exact Go.of st' (K T' h' _ rfl E' A' D' ⟨L, vm0, k0, X', e', N, hS, (Nat.le_trans hk E'.1), HD.new E' A'.lt⟩)
theorem k_initO {a0 : Array Value} {idx : Nat} {a : Addr} {wd : Nat} (G : Ctx Γ Z EL own bytes maxl ret nm rm hs0) (X : W Γ n0 T h C S sf) (w1 : (Cond.methodLink own idx Lib.objectInit).before a0 Z = true) (w2 : (Cond.instanceMethod Lib.objectInit).before a0 Z = true) (w3 : (Cond.code Lib.objectInit ⟨#[0xb1]⟩ 1 none).before a0 Z = true) (hd : decode bytes pc = .ok (.invokespecial idx, 3)) (hp : pc + 3 = pc') (hL : Ls.size = maxl) (hf : 1 ≤ rm.frames) (hwd : (st.map fun v => v.category).sum = wd) (hl : wd + 12 ≤ rm.locals) (K : ∀ T, W Γ n0 T h C S sf → Go Γ n0 Q T (mkF Γ.m pc' Ls st)) : Go Γ n0 Q T (mkF Γ.m pc Ls (.ref a :: st)) := by
  subst hp
  obtain ⟨hx, hZ0, hown0, hby, hml, hret, hnm, hlk, hR, hsH, hzz, hel, hew⟩ := G
  subst hzz hel
  obtain ⟨aw, hew⟩ := hew
  obtain ⟨L, vm0, k0, X, e, N, hS, hk, HD⟩ := X
  have hZ : Γ.Z.Warmed39 (Γ.s.setVm vm0).vm := State.Warmed39.trans hZ0 hS.1
  have hown : (Γ.s.setVm vm0).vm.findClass own = some Γ.m.cls := by rw [show (Γ.s.setVm vm0).vm = vm0 from rfl, hS.1.alike.findClass]; exact hown0
  obtain ⟨T', X', e', st'⟩ := initO X hx hZ hown w1 w2 w3 e (g := mkF Γ.m pc Ls (.ref a :: st)) rfl (by rw [hml]; exact hL) rfl (hb hby hd) (hR ▸ hf) (W := wd) (by show 2 * 0 + _ ≤ _; omega) (hR ▸ hl)
  exact Go.of st' (K T' ⟨L, vm0, k0, X', e', N, hS, hk, HD⟩)
theorem k_castY {a0 : Array Value} {idx : Nat} {KK : String} {a : Addr} (G : Ctx Γ Z EL own bytes maxl ret nm rm hs0) (X : W Γ n0 T h C S sf) (w : (Cond.classLink own idx KK).before a0 Z = true) (F : Ins Z h a KK true) (hd : decode bytes pc = .ok (.checkcast idx, 3)) (hp : pc + 3 = pc') (K : ∀ T, W Γ n0 T h C S sf → Go Γ n0 Q T (mkF Γ.m pc' Ls (.ref a :: st))) : Go Γ n0 Q T (mkF Γ.m pc Ls (.ref a :: st)) := by
  subst hp
  obtain ⟨hx, hZ0, hown0, hby, hml, hret, hnm, hlk, hR, hsH, hzz, hel, hew⟩ := G
  subst hzz hel
  obtain ⟨aw, hew⟩ := hew
  obtain ⟨L, vm0, k0, X, e, N, hS, hk, HD⟩ := X
  have hZ : Γ.Z.Warmed39 (Γ.s.setVm vm0).vm := State.Warmed39.trans hZ0 hS.1
  have hown : (Γ.s.setVm vm0).vm.findClass own = some Γ.m.cls := by rw [show (Γ.s.setVm vm0).vm = vm0 from rfl, hS.1.alike.findClass]; exact hown0
  obtain ⟨T', X', e', st'⟩ := castY X hx hZ hown w e F (g := mkF Γ.m pc Ls (.ref a :: st)) rfl rfl (hb hby hd)
  exact Go.of st' (K T' ⟨L, vm0, k0, X', e', N, hS, hk, HD⟩)
theorem k_instY {a0 : Array Value} {idx : Nat} {KK : String} {a : Addr} (G : Ctx Γ Z EL own bytes maxl ret nm rm hs0) (X : W Γ n0 T h C S sf) (w : (Cond.classLink own idx KK).before a0 Z = true) (F : Ins Z h a KK true) (hd : decode bytes pc = .ok (.instanceof idx, 3)) (hp : pc + 3 = pc') (K : ∀ T, W Γ n0 T h C S sf → Go Γ n0 Q T (mkF Γ.m pc' Ls (.int 1 :: st))) : Go Γ n0 Q T (mkF Γ.m pc Ls (.ref a :: st)) := by
  subst hp
  obtain ⟨hx, hZ0, hown0, hby, hml, hret, hnm, hlk, hR, hsH, hzz, hel, hew⟩ := G
  subst hzz hel
  obtain ⟨aw, hew⟩ := hew
  obtain ⟨L, vm0, k0, X, e, N, hS, hk, HD⟩ := X
  have hZ : Γ.Z.Warmed39 (Γ.s.setVm vm0).vm := State.Warmed39.trans hZ0 hS.1
  have hown : (Γ.s.setVm vm0).vm.findClass own = some Γ.m.cls := by rw [show (Γ.s.setVm vm0).vm = vm0 from rfl, hS.1.alike.findClass]; exact hown0
  obtain ⟨T', X', e', st'⟩ := instY X hx hZ hown w e F (g := mkF Γ.m pc Ls (.ref a :: st)) rfl rfl (hb hby hd)
  exact Go.of st' (K T' ⟨L, vm0, k0, X', e', N, hS, hk, HD⟩)
theorem W.drop {sf' : List Addr} (X : W Γ n0 T h C S (sf' ++ sf)) : W Γ n0 T h C S sf := by
  obtain ⟨L, v, k, X, e, N, a, b, H⟩ := X
  exact ⟨L, v, k, X, e, N, a, b, H.1, fun x hx => H.2 x (List.mem_append_right _ hx)⟩
theorem W.sub {sf' : List Addr} (X : W Γ n0 T h C S sf') (q : ∀ x ∈ sf, x ∈ sf') : W Γ n0 T h C S sf := by
  obtain ⟨L, v, k, X, e, N, a, b, H⟩ := X
  exact ⟨L, v, k, X, e, N, a, b, H.1, fun x hx => H.2 x (q x hx)⟩
theorem W.only {sf' : List Addr} {x : Addr} (X : W Γ n0 T h C S (sf' ++ sf)) (q : x ∈ sf') : W Γ n0 T h C S (x :: sf) := X.sub fun y hy => by
  rcases List.mem_cons.mp hy with rfl | hy
  · exact List.mem_append_left _ q
  · exact List.mem_append_right _ hy
theorem W.addE {x : Addr} {CC : String} (G : Ctx Γ Z EL own bytes maxl ret nm rm hs0) (X : W Γ n0 T h C S sf) (E : Exa Z h x CC) (h1 : CC ≠ "java/lang/String") (h2 : CC ≠ "[B") : W Γ n0 T h C S (x :: sf) := by
  obtain ⟨hx, hZ0, hown0, hby, hml, hret, hnm, hlk, hR, hsH, hzz, hel, hew⟩ := G
  subst hzz hel
  obtain ⟨L, v, k, X, e, N, a, b, H⟩ := X
  refine ⟨L, v, k, X, e, N, a, b, H.1, fun y hy => ?_⟩
  rcases List.mem_cons.mp hy with rfl | hy
  · exact ⟨E.lt, Safe.exa (State.Warmed39.trans hZ0 a.1).alike E h1 h2⟩
  · exact H.2 y hy
theorem backHeld {l : Launch} {R : Room} {p : Program} {e : Env} {below : List Frame} {s : State} {args : Array Value} {vm0 : Vm} {a0 a1 : Array Value} {y : MethodName} {maxL len Wd : Nat} {as' : Array Value} (hM : Met Z EL sf y bytes maxL ret rm as' h n0 Q) (hZ : Z.Warmed39 vm0) (wc : (Cond.code y bytes maxL ret).before a0 Z = true) (wz : (Cond.initialized y.cls).before a0 Z = true) (hf : rm.frames + 1 ≤ R.frames) (hl : Wd + (maxL + 11) + rm.locals ≤ R.locals) (hEL : EW Z a1 EL) (H : CHv Z EL vm0 h) (hs : ∀ x ∈ sf, x < h.size ∧ Safe Z EL vm0 h x) :
    BackS l R p e below (s.setVm vm0) args y len Wd (fun A a => a = as' ∧ A.U.heap = h ∧ A.cells + rm.cells ≤ R.cells ∧ A.slots + rm.slots ≤ R.slots)
      (fun A _ v B => ∃ L, ((∃ sf', Q v B.U.heap sf' ∧ ∀ x ∈ sf', x < B.U.heap.size ∧ Safe Z EL B.U.vm B.U.heap x) ∧ Fr n0 L) ∧ B.locs = A.locs ++ L ∧ B.cells = A.cells + rm.cells ∧ B.slots = A.slots + rm.slots ∧ CHr Z EL vm0 h B.U.vm B.U.heap) := by
  refine BackS.of_freeW (bytes := bytes) (maxL := maxL) (ret := ret) (E := fun _ U o U' L k n => k = rm.cells ∧ n = rm.slots ∧ (∃ v, o = .returned v ∧ (∃ sf', Q v U'.heap sf' ∧ ∀ x ∈ sf', x < U'.heap.size ∧ Safe Z EL U'.vm U'.heap x) ∧ Fr n0 L) ∧ CHr Z EL U.vm U.heap U'.vm U'.heap) (hM l) hf hl ?_ ?_ ?_ ?_ ?_
  · intro m meth c A a Y hp
    have hU : Z.Warmed39 A.U.vm := wtrans (s := s.setVm vm0) hZ Y.warmed
    exact ⟨by show (Cond.and _ .tt).before a A.U = true; rw [Cond.before_and, mv hU wc]; rfl, mv hU wc, mv hU wz, hp.2.2.1, hp.2.2.2⟩
  · intro m meth c A a g mk Y hp
    have AT := CHv.at (h := h) Y hZ hEL H
    exact ⟨hp.1, wtrans (s := s.setVm vm0) hZ Y.warmed, hp.2.1, AT.1, fun x hx => ⟨(hs x hx).1, AT.safe (hs x hx).1 (hs x hx).2⟩⟩
  · intros; trivial
  · rintro _ _ _ _ ⟨v, L, h1, h2, h3, h4⟩
    exact ⟨L, _, _, h4, rfl, rfl, ⟨v, h1, h2⟩, h3⟩
  · rintro m meth c A a g mk v t L k n Y hp - - ⟨e1, e2, ⟨v', e3, e4⟩, e5⟩
    cases e3; subst e1 e2
    refine ⟨L, e4, rfl, rfl, rfl, (CHv.at Y hZ hEL H).trans ?_⟩
    rw [← hp.2.1]; exact e5
theorem k_callS {a0 : Array Value} {idx : Nat} {y : MethodName} {by' : ByteArray} {maxL' : Nat} {ret' : Option FieldType} {rm' : Room} {ps : List FieldType} {rt : Option FieldType} {wd : Nat} {QY : Option Value → Heap → List Addr → Prop} {argsL rest : List Value} (G : Ctx Γ Z EL own bytes maxl ret nm rm hs0) (X : W Γ n0 T h C S sf) (hst : st = argsL.reverse ++ rest) (w1 : (Cond.methodLink own idx y).before a0 Z = true) (w2 : (Cond.static y).before a0 Z = true) (wz : (Cond.initialized y.cls).before a0 Z = true) (wc : (Cond.code y by' maxL' ret').before a0 Z = true) (hy : y.cls ≠ "java/lang/invoke/MethodHandle" ∧ y.cls ≠ "java/lang/invoke/VarHandle") (M : Met Z EL sf y by' maxL' ret' rm' argsL.toArray h n0 QY) (hd : decode bytes pc = .ok (.invokestatic idx, 3)) (pd : parseMethodDescriptor y.desc = some ⟨ps, rt⟩) (hn : argsL.length = ps.length) (hp : pc + 3 = pc') (hL : Ls.size = maxl) (hwd : (rest.map fun v => v.category).sum = wd) (hf : rm'.frames + 1 ≤ rm.frames) (hlo : wd + (maxL' + 11) + rm'.locals ≤ rm.locals) (hc : C + rm'.cells ≤ rm.cells) (hs : S + rm'.slots ≤ rm.slots) (K : ∀ T h' v sf', W Γ n0 T h' (C + rm'.cells) (S + rm'.slots) (sf' ++ sf) → QY v h' sf' → Go Γ n0 Q T (mkF Γ.m pc' Ls (v.toList ++ rest))) : Go Γ n0 Q T (mkF Γ.m pc Ls st) := by
  subst hp hst
  obtain ⟨hx, hZ0, hown0, hby, hml, hret, hnm, hlk, hR, hsH, hzz, hel, hew⟩ := G
  subst hzz hel
  obtain ⟨aw, hew⟩ := hew
  obtain ⟨L, vm0, k0, X, e, N, hS, hk, HD⟩ := X
  have hZ : Γ.Z.Warmed39 (Γ.s.setVm vm0).vm := State.Warmed39.trans hZ0 hS.1
  have hown : (Γ.s.setVm vm0).vm.findClass own = some Γ.m.cls := by rw [show (Γ.s.setVm vm0).vm = vm0 from rfl, hS.1.alike.findClass]; exact hown0
  obtain ⟨v1, _, ⟨T1, L1, k1, n1⟩, -, X1, hS1, hg1, ⟨Lc1, q1, l1, y1, z1, c1⟩, s1⟩ := callSS X hx hown (mvT hZ w1) (mvT hZ w2) (mvT hZ wz) (mvT hZ wc) hy (backHeld (Wd := wd) M hZ wc wz (hR ▸ hf) (hR ▸ hlo) hew HD.1.1 HD.2) (g := mkF Γ.m pc Ls (argsL.reverse ++ rest)) rfl (by rw [hml]; exact hL) (argsL := argsL) (rest := rest) (lenOf pd hn) rfl (by show 2 * 0 + _ ≤ _; omega) (hb hby hd) (fun _ _ => ⟨rfl, e, hR ▸ hc, hR ▸ hs⟩)
  dsimp only [Pt.U, Pt.locs, Pt.cells, Pt.slots] at X1 hS1 hg1 l1 y1 z1 s1 q1 c1
  subst l1 y1 z1
  obtain ⟨⟨sf1, q1, f1⟩, N1⟩ := q1
  exact Go.of (fun t k => s1.trans k) (K T1 _ v1 sf1 ⟨_, _, _, X1, rfl, Fr.app N N1, foldS hS (by rw [e]; exact hk) hS1 hg1, Nat.le_refl _, HD.1.trans c1, fun x hx => (List.mem_append.mp hx).elim (f1 x) fun m => ⟨Nat.lt_of_lt_of_le (HD.2 x m).1 c1.2.1, c1.safe (HD.2 x m).1 (HD.2 x m).2⟩⟩ q1)
theorem k_callI {a0 : Array Value} {idx : Nat} {y : MethodName} {by' : ByteArray} {maxL' : Nat} {rm' : Room} {ps : List FieldType} {rt : Option FieldType} {wd : Nat} {QY : Option Value → Heap → List Addr → Prop} {argsL rest : List Value} {a : Addr} (G : Ctx Γ Z EL own bytes maxl ret nm rm hs0) (X : W Γ n0 T h C S sf) (hst : st = argsL.reverse ++ .ref a :: rest) (hy1 : y.name = "<init>") (w1 : (Cond.methodLink own idx y).before a0 Z = true) (w2 : (Cond.instanceMethod y).before a0 Z = true) (wz : (Cond.initialized y.cls).before a0 Z = true) (wc : (Cond.code y by' maxL' none).before a0 Z = true) (hy : y.cls ≠ "java/lang/invoke/MethodHandle" ∧ y.cls ≠ "java/lang/invoke/VarHandle") (M : Met Z EL sf y by' maxL' none rm' (.ref a :: argsL).toArray h n0 QY) (hd : decode bytes pc = .ok (.invokespecial idx, 3)) (pd : parseMethodDescriptor y.desc = some ⟨ps, rt⟩) (hn : argsL.length = ps.length) (hp : pc + 3 = pc') (hL : Ls.size = maxl) (hwd : (rest.map fun v => v.category).sum = wd) (hf : rm'.frames + 1 ≤ rm.frames) (hlo : wd + (maxL' + 11) + rm'.locals ≤ rm.locals) (hc : C + rm'.cells ≤ rm.cells) (hs : S + rm'.slots ≤ rm.slots) (K : ∀ T h' v sf', W Γ n0 T h' (C + rm'.cells) (S + rm'.slots) (sf' ++ sf) → QY v h' sf' → Go Γ n0 Q T (mkF Γ.m pc' Ls (v.toList ++ rest))) : Go Γ n0 Q T (mkF Γ.m pc Ls st) := by
  subst hp hst
  obtain ⟨hx, hZ0, hown0, hby, hml, hret, hnm, hlk, hR, hsH, hzz, hel, hew⟩ := G
  subst hzz hel
  obtain ⟨aw, hew⟩ := hew
  obtain ⟨L, vm0, k0, X, e, N, hS, hk, HD⟩ := X
  have hZ : Γ.Z.Warmed39 (Γ.s.setVm vm0).vm := State.Warmed39.trans hZ0 hS.1
  have hown : (Γ.s.setVm vm0).vm.findClass own = some Γ.m.cls := by rw [show (Γ.s.setVm vm0).vm = vm0 from rfl, hS.1.alike.findClass]; exact hown0
  obtain ⟨v1, _, ⟨T1, L1, k1, n1⟩, -, X1, hS1, hg1, ⟨Lc1, q1, l1, y1, z1, c1⟩, s1⟩ := X.specialBackS hx hy1 hown (mvT hZ w1) (mvT hZ w2) (mvT hZ wc) hy (backHeld (Wd := wd) M hZ wc wz (hR ▸ hf) (hR ▸ hlo) hew HD.1.1 HD.2) (g := mkF Γ.m pc Ls (argsL.reverse ++ .ref a :: rest)) rfl (by rw [hml]; exact hL) (Steps.refl _) (a := a) (argsL := argsL) (rest := rest) (lenOf pd hn) rfl (by show 2 * 0 + _ ≤ _; omega) (hb hby hd) (fun _ _ => ⟨rfl, e, hR ▸ hc, hR ▸ hs⟩)
  dsimp only [Pt.U, Pt.locs, Pt.cells, Pt.slots] at X1 hS1 hg1 l1 y1 z1 s1 q1 c1
  subst l1 y1 z1
  obtain ⟨⟨sf1, q1, f1⟩, N1⟩ := q1
  exact Go.of (fun t k => s1.trans k) (K T1 _ v1 sf1 ⟨_, _, _, X1, rfl, Fr.app N N1, foldS hS (by rw [e]; exact hk) hS1 hg1, Nat.le_refl _, HD.1.trans c1, fun x hx => (List.mem_append.mp hx).elim (f1 x) fun m => ⟨Nat.lt_of_lt_of_le (HD.2 x m).1 c1.2.1, c1.safe (HD.2 x m).1 (HD.2 x m).2⟩⟩ q1)
theorem k_callV {a0 : Array Value} {idx : Nat} {y : MethodName} {by' : ByteArray} {maxL' : Nat} {ret' : Option FieldType} {rm' : Room} {ps : List FieldType} {rt : Option FieldType} {wd : Nat} {QY : Option Value → Heap → List Addr → Prop} {argsL rest : List Value} {a : Addr} {CC : String} {z : MethodName} (G : Ctx Γ Z EL own bytes maxl ret nm rm hs0) (X : W Γ n0 T h C S sf) (hst : st = argsL.reverse ++ .ref a :: rest) (E : Exa Z h a CC) (w1 : (Cond.methodLink own idx y).before a0 Z = true) (w2 : (Cond.declares y).before a0 Z = true) (nf : ∀ s : State, Z.Warmed39 s.vm → NotFace s y) (w3 : (Cond.selects CC y z).before a0 Z = true) (w4 : (Cond.instanceMethod z).before a0 Z = true) (wz : (Cond.initialized z.cls).before a0 Z = true) (wc : (Cond.code z by' maxL' ret').before a0 Z = true) (hy : y.cls ≠ "java/lang/invoke/MethodHandle" ∧ y.cls ≠ "java/lang/invoke/VarHandle") (M : Met Z EL sf z by' maxL' ret' rm' (.ref a :: argsL).toArray h n0 QY) (hd : decode bytes pc = .ok (.invokevirtual idx, 3)) (pd : parseMethodDescriptor y.desc = some ⟨ps, rt⟩) (hn : argsL.length = ps.length) (hp : pc + 3 = pc') (hL : Ls.size = maxl) (hwd : (rest.map fun v => v.category).sum = wd) (hf : rm'.frames + 1 ≤ rm.frames) (hlo : wd + (maxL' + 11) + rm'.locals ≤ rm.locals) (hc : C + rm'.cells ≤ rm.cells) (hs : S + rm'.slots ≤ rm.slots) (K : ∀ T h' v sf', W Γ n0 T h' (C + rm'.cells) (S + rm'.slots) (sf' ++ sf) → QY v h' sf' → Go Γ n0 Q T (mkF Γ.m pc' Ls (v.toList ++ rest))) : Go Γ n0 Q T (mkF Γ.m pc Ls st) := by
  subst hp hst
  obtain ⟨hx, hZ0, hown0, hby, hml, hret, hnm, hlk, hR, hsH, hzz, hel, hew⟩ := G
  subst hzz hel
  obtain ⟨aw, hew⟩ := hew
  obtain ⟨L, vm0, k0, X, e, N, hS, hk, HD⟩ := X
  have hZ : Γ.Z.Warmed39 (Γ.s.setVm vm0).vm := State.Warmed39.trans hZ0 hS.1
  have hown : (Γ.s.setVm vm0).vm.findClass own = some Γ.m.cls := by rw [show (Γ.s.setVm vm0).vm = vm0 from rfl, hS.1.alike.findClass]; exact hown0
  obtain ⟨cq, kq, qa, qb, qc⟩ := isOf hZ e E
  obtain ⟨v1, _, ⟨T1, L1, k1, n1⟩, -, X1, hS1, hg1, ⟨Lc1, q1, l1, y1, z1, c1⟩, s1⟩ := X.virtualBackS hx hown (mvT hZ w1) (mvT hZ w2) (nf _ hZ) (mvT hZ w3) (mvT hZ w4) hy (backHeld (Wd := wd) M hZ wc wz (hR ▸ hf) (hR ▸ hlo) hew HD.1.1 HD.2) qa qc (g := mkF Γ.m pc Ls (argsL.reverse ++ .ref a :: rest)) rfl (by rw [hml]; exact hL) (Steps.refl _) (argsL := argsL) (rest := rest) (lenOf pd hn) rfl (by show 2 * 0 + _ ≤ _; omega) (hb hby hd) (fun _ _ => ⟨rfl, e, hR ▸ hc, hR ▸ hs⟩)
  dsimp only [Pt.U, Pt.locs, Pt.cells, Pt.slots] at X1 hS1 hg1 l1 y1 z1 s1 q1 c1
  subst l1 y1 z1
  obtain ⟨⟨sf1, q1, f1⟩, N1⟩ := q1
  exact Go.of (fun t k => s1.trans k) (K T1 _ v1 sf1 ⟨_, _, _, X1, rfl, Fr.app N N1, foldS hS (by rw [e]; exact hk) hS1 hg1, Nat.le_refl _, HD.1.trans c1, fun x hx => (List.mem_append.mp hx).elim (f1 x) fun m => ⟨Nat.lt_of_lt_of_le (HD.2 x m).1 c1.2.1, c1.safe (HD.2 x m).1 (HD.2 x m).2⟩⟩ q1)
theorem nf_sel {a0 : Array Value} {CC : String} {y : MethodName} (w3 : (Cond.selects CC y y).before a0 Z = true) : ∀ s : State, Z.Warmed39 s.vm → NotFace s y := fun s hZ => notFace_of_selects (args := #[]) (mvT hZ w3)
theorem k_callVU {a0 : Array Value} {idx : Nat} {y : MethodName} {by' : ByteArray} {maxL' : Nat} {ret' : Option FieldType} {rm' : Room} {ps : List FieldType} {rt : Option FieldType} {wd : Nat} {QY : Option Value → Heap → List Addr → Prop} {argsL rest : List Value} {a : Addr} {CC owner : String} {z : MethodName} (G : Ctx Γ Z EL own bytes maxl ret nm rm hs0) (X : W Γ n0 T h C S sf) (hst : st = argsL.reverse ++ .ref a :: rest) (E : Exa Z h a CC) (w1 : (Cond.methodLink own idx y).before a0 Z = true) (ws : (Cond.sameMethod y.cls owner y.name y.desc).before a0 Z = true) (w2 : (Cond.declares ⟨owner, y.name, y.desc⟩).before a0 Z = true) (w3 : (Cond.selects CC y z).before a0 Z = true) (w4 : (Cond.instanceMethod z).before a0 Z = true) (wz : (Cond.initialized z.cls).before a0 Z = true) (wc : (Cond.code z by' maxL' ret').before a0 Z = true) (hy : owner ≠ "java/lang/invoke/MethodHandle" ∧ owner ≠ "java/lang/invoke/VarHandle") (M : Met Z EL sf z by' maxL' ret' rm' (.ref a :: argsL).toArray h n0 QY) (hd : decode bytes pc = .ok (.invokevirtual idx, 3)) (pd : parseMethodDescriptor y.desc = some ⟨ps, rt⟩) (hn : argsL.length = ps.length) (hp : pc + 3 = pc') (hL : Ls.size = maxl) (hwd : (rest.map fun v => v.category).sum = wd) (hf : rm'.frames + 1 ≤ rm.frames) (hlo : wd + (maxL' + 11) + rm'.locals ≤ rm.locals) (hc : C + rm'.cells ≤ rm.cells) (hs : S + rm'.slots ≤ rm.slots) (K : ∀ T h' v sf', W Γ n0 T h' (C + rm'.cells) (S + rm'.slots) (sf' ++ sf) → QY v h' sf' → Go Γ n0 Q T (mkF Γ.m pc' Ls (v.toList ++ rest))) : Go Γ n0 Q T (mkF Γ.m pc Ls st) := by
  subst hp hst
  obtain ⟨hx, hZ0, hown0, hby, hml, hret, hnm, hlk, hR, hsH, hzz, hel, hew⟩ := G
  subst hzz hel
  obtain ⟨aw, hew⟩ := hew
  obtain ⟨L, vm0, k0, X, e, N, hS, hk, HD⟩ := X
  have hZ : Γ.Z.Warmed39 (Γ.s.setVm vm0).vm := State.Warmed39.trans hZ0 hS.1
  have hown : (Γ.s.setVm vm0).vm.findClass own = some Γ.m.cls := by rw [show (Γ.s.setVm vm0).vm = vm0 from rfl, hS.1.alike.findClass]; exact hown0
  obtain ⟨cq, kq, qa, qb, qc⟩ := isOf hZ e E
  obtain ⟨v1, _, ⟨T1, L1, k1, n1⟩, -, X1, hS1, hg1, ⟨Lc1, q1, l1, y1, z1, c1⟩, s1⟩ := X.virtualBackUpS hx hown (mvT hZ w1) (mvT hZ ws) (mvT hZ w2) hy (mvT hZ w3) (mvT hZ w4) (backHeld (Wd := wd) M hZ wc wz (hR ▸ hf) (hR ▸ hlo) hew HD.1.1 HD.2) qa qc (g := mkF Γ.m pc Ls (argsL.reverse ++ .ref a :: rest)) rfl (by rw [hml]; exact hL) (Steps.refl _) (argsL := argsL) (rest := rest) (lenOf pd hn) rfl (by show 2 * 0 + _ ≤ _; omega) (hb hby hd) (fun _ _ => ⟨rfl, e, hR ▸ hc, hR ▸ hs⟩)
  dsimp only [Pt.U, Pt.locs, Pt.cells, Pt.slots] at X1 hS1 hg1 l1 y1 z1 s1 q1 c1
  subst l1 y1 z1
  obtain ⟨⟨sf1, q1, f1⟩, N1⟩ := q1
  exact Go.of (fun t k => s1.trans k) (K T1 _ v1 sf1 ⟨_, _, _, X1, rfl, Fr.app N N1, foldS hS (by rw [e]; exact hk) hS1 hg1, Nat.le_refl _, HD.1.trans c1, fun x hx => (List.mem_append.mp hx).elim (f1 x) fun m => ⟨Nat.lt_of_lt_of_le (HD.2 x m).1 c1.2.1, c1.safe (HD.2 x m).1 (HD.2 x m).2⟩⟩ q1)
theorem k_callF {a0 : Array Value} {idx : Nat} {y : MethodName} {by' : ByteArray} {maxL' : Nat} {ret' : Option FieldType} {rm' : Room} {ps : List FieldType} {rt : Option FieldType} {wd : Nat} {QY : Option Value → Heap → List Addr → Prop} {argsL rest : List Value} {a : Addr} {CC : String} {z : MethodName} {cnt : Nat} (G : Ctx Γ Z EL own bytes maxl ret nm rm hs0) (X : W Γ n0 T h C S sf) (hst : st = argsL.reverse ++ .ref a :: rest) (E : Exa Z h a CC) (w1 : (Cond.methodLink own idx y).before a0 Z = true) (w2 : (Cond.declares y).before a0 Z = true) (wf : (Cond.interfaceMethod y.cls y.cls y.name y.desc).before a0 Z = true) (hwf : ((Cond.interfaceMethod y.cls y.cls y.name y.desc).onTables && (Cond.interfaceMethod y.cls y.cls y.name y.desc).keepsFace) = true) (w3 : (Cond.selects CC y z).before a0 Z = true) (w4 : (Cond.instanceMethod z).before a0 Z = true) (wp : (Cond.publicMethod z).before a0 Z = true) (wu : (Cond.unhidden CC y.name y.desc).before a0 Z = true) (wk : (Cond.castable CC y.cls).before a0 Z = true) (wz : (Cond.initialized z.cls).before a0 Z = true) (wc : (Cond.code z by' maxL' ret').before a0 Z = true) (hy : y.cls ≠ "java/lang/invoke/MethodHandle" ∧ y.cls ≠ "java/lang/invoke/VarHandle") (M : Met Z EL sf z by' maxL' ret' rm' (.ref a :: argsL).toArray h n0 QY) (hd : decode bytes pc = .ok (.invokeinterface idx cnt, 5)) (pd : parseMethodDescriptor y.desc = some ⟨ps, rt⟩) (hn : argsL.length = ps.length) (hp : pc + 5 = pc') (hL : Ls.size = maxl) (hwd : (rest.map fun v => v.category).sum = wd) (hf : rm'.frames + 1 ≤ rm.frames) (hlo : wd + (maxL' + 11) + rm'.locals ≤ rm.locals) (hc : C + rm'.cells ≤ rm.cells) (hs : S + rm'.slots ≤ rm.slots) (K : ∀ T h' v sf', W Γ n0 T h' (C + rm'.cells) (S + rm'.slots) (sf' ++ sf) → QY v h' sf' → Go Γ n0 Q T (mkF Γ.m pc' Ls (v.toList ++ rest))) : Go Γ n0 Q T (mkF Γ.m pc Ls st) := by
  subst hp hst
  obtain ⟨hx, hZ0, hown0, hby, hml, hret, hnm, hlk, hR, hsH, hzz, hel, hew⟩ := G
  subst hzz hel
  obtain ⟨aw, hew⟩ := hew
  obtain ⟨L, vm0, k0, X, e, N, hS, hk, HD⟩ := X
  have hZ : Γ.Z.Warmed39 (Γ.s.setVm vm0).vm := State.Warmed39.trans hZ0 hS.1
  have hown : (Γ.s.setVm vm0).vm.findClass own = some Γ.m.cls := by rw [show (Γ.s.setVm vm0).vm = vm0 from rfl, hS.1.alike.findClass]; exact hown0
  obtain ⟨cq, kq, qa, qb, qc⟩ := isOf hZ e E
  obtain ⟨v1, _, ⟨T1, L1, k1, n1⟩, -, X1, hS1, hg1, ⟨Lc1, q1, l1, y1, z1, c1⟩, s1⟩ := X.interfaceBackS hx hown (mvT hZ w1) (mvT hZ w2) (mvT hZ wf hwf) (mvT hZ w3) (mvT hZ w4) (mvT hZ wp) (mvT hZ wu) (mvT hZ wk) hy (backHeld (Wd := wd) M hZ wc wz (hR ▸ hf) (hR ▸ hlo) hew HD.1.1 HD.2) qa qb qc (g := mkF Γ.m pc Ls (argsL.reverse ++ .ref a :: rest)) rfl (by rw [hml]; exact hL) (Steps.refl _) (argsL := argsL) (rest := rest) (lenOf pd hn) rfl (by show 2 * 0 + _ ≤ _; omega) (hb hby hd) (fun _ _ => ⟨rfl, e, hR ▸ hc, hR ▸ hs⟩)
  dsimp only [Pt.U, Pt.locs, Pt.cells, Pt.slots] at X1 hS1 hg1 l1 y1 z1 s1 q1 c1
  subst l1 y1 z1
  obtain ⟨⟨sf1, q1, f1⟩, N1⟩ := q1
  exact Go.of (fun t k => s1.trans k) (K T1 _ v1 sf1 ⟨_, _, _, X1, rfl, Fr.app N N1, foldS hS (by rw [e]; exact hk) hS1 hg1, Nat.le_refl _, HD.1.trans c1, fun x hx => (List.mem_append.mp hx).elim (f1 x) fun m => ⟨Nat.lt_of_lt_of_le (HD.2 x m).1 c1.2.1, c1.safe (HD.2 x m).1 (HD.2 x m).2⟩⟩ q1)
theorem k_callP {a0 : Array Value} {idx : Nat} {y : MethodName} {by' : ByteArray} {maxL' : Nat} {ret' : Option FieldType} {rm' : Room} {ps : List FieldType} {rt : Option FieldType} {wd : Nat} {QY : Option Value → Heap → List Addr → Prop} {argsL rest : List Value} {a : Addr} {CC : String} (G : Ctx Γ Z EL own bytes maxl ret nm rm hs0) (X : W Γ n0 T h C S sf) (hst : st = argsL.reverse ++ .ref a :: rest) (E : Exa Z h a CC) (w1 : (Cond.methodLink own idx y).before a0 Z = true) (w2 : (Cond.instanceMethod y).before a0 Z = true) (w3 : (Cond.selects y.cls y y).before a0 Z = true) (wp : (Cond.privateMethod y).before a0 Z = true) (wz : (Cond.initialized y.cls).before a0 Z = true) (wc : (Cond.code y by' maxL' ret').before a0 Z = true) (hy : y.cls ≠ "java/lang/invoke/MethodHandle" ∧ y.cls ≠ "java/lang/invoke/VarHandle") (M : Met Z EL sf y by' maxL' ret' rm' (.ref a :: argsL).toArray h n0 QY) (hd : decode bytes pc = .ok (.invokevirtual idx, 3)) (pd : parseMethodDescriptor y.desc = some ⟨ps, rt⟩) (hn : argsL.length = ps.length) (hp : pc + 3 = pc') (hL : Ls.size = maxl) (hwd : (rest.map fun v => v.category).sum = wd) (hf : rm'.frames + 1 ≤ rm.frames) (hlo : wd + (maxL' + 11) + rm'.locals ≤ rm.locals) (hc : C + rm'.cells ≤ rm.cells) (hs : S + rm'.slots ≤ rm.slots) (K : ∀ T h' v sf', W Γ n0 T h' (C + rm'.cells) (S + rm'.slots) (sf' ++ sf) → QY v h' sf' → Go Γ n0 Q T (mkF Γ.m pc' Ls (v.toList ++ rest))) : Go Γ n0 Q T (mkF Γ.m pc Ls st) := by
  subst hp hst
  obtain ⟨hx, hZ0, hown0, hby, hml, hret, hnm, hlk, hR, hsH, hzz, hel, hew⟩ := G
  subst hzz hel
  obtain ⟨aw, hew⟩ := hew
  obtain ⟨L, vm0, k0, X, e, N, hS, hk, HD⟩ := X
  have hZ : Γ.Z.Warmed39 (Γ.s.setVm vm0).vm := State.Warmed39.trans hZ0 hS.1
  have hown : (Γ.s.setVm vm0).vm.findClass own = some Γ.m.cls := by rw [show (Γ.s.setVm vm0).vm = vm0 from rfl, hS.1.alike.findClass]; exact hown0
  obtain ⟨cq, qa, qb⟩ := E.cell
  obtain ⟨v1, _, ⟨T1, L1, k1, n1⟩, -, X1, hS1, hg1, ⟨Lc1, q1, l1, y1, z1, c1⟩, s1⟩ := X.privateBackS hx hown (mvT hZ w1) (mvT hZ w2) (mvT hZ w3) (Cond.privateMethod_at (mvP hZ wp (args := #[]))) (mvT hZ wc) hy (backHeld (Wd := wd) M hZ wc wz (hR ▸ hf) (hR ▸ hlo) hew HD.1.1 HD.2) (g := mkF Γ.m pc Ls (argsL.reverse ++ .ref a :: rest)) rfl (by rw [hml]; exact hL) (Steps.refl _) (a := a) (by rw [e]; exact qa) qb (argsL := argsL) (rest := rest) (lenOf pd hn) rfl (by show 2 * 0 + _ ≤ _; omega) (hb hby hd) (fun _ _ => ⟨rfl, e, hR ▸ hc, hR ▸ hs⟩)
  dsimp only [Pt.U, Pt.locs, Pt.cells, Pt.slots] at X1 hS1 hg1 l1 y1 z1 s1 q1 c1
  subst l1 y1 z1
  obtain ⟨⟨sf1, q1, f1⟩, N1⟩ := q1
  exact Go.of (fun t k => s1.trans k) (K T1 _ v1 sf1 ⟨_, _, _, X1, rfl, Fr.app N N1, foldS hS (by rw [e]; exact hk) hS1 hg1, Nat.le_refl _, HD.1.trans c1, fun x hx => (List.mem_append.mp hx).elim (f1 x) fun m => ⟨Nat.lt_of_lt_of_le (HD.2 x m).1 c1.2.1, c1.safe (HD.2 x m).1 (HD.2 x m).2⟩⟩ q1)
theorem k_callU {a0 : Array Value} {idx : Nat} {y : MethodName} {by' : ByteArray} {maxL' : Nat} {ret' : Option FieldType} {rm' : Room} {ps : List FieldType} {rt : Option FieldType} {wd : Nat} {QY : Option Value → Heap → List Addr → Prop} {argsL rest : List Value} {a : Addr} {KS : String} (G : Ctx Γ Z EL own bytes maxl ret nm rm hs0) (X : W Γ n0 T h C S sf) (hst : st = argsL.reverse ++ .ref a :: rest) (I : Ins Z h a KS true) (w1 : (Cond.methodLink own idx y).before a0 Z = true) (w2 : (Cond.sameMethod y.cls y.cls y.name y.desc).before a0 Z = true) (w3 : (Cond.instanceMethod y).before a0 Z = true) (w4 : (Cond.superclass own y.cls).before a0 Z = true) (hni : y.name ≠ "<init>") (wz : (Cond.initialized y.cls).before a0 Z = true) (wc : (Cond.code y by' maxL' ret').before a0 Z = true) (M : Met Z EL sf y by' maxL' ret' rm' (.ref a :: argsL).toArray h n0 QY) (hd : decode bytes pc = .ok (.invokespecial idx, 3)) (pd : parseMethodDescriptor y.desc = some ⟨ps, rt⟩) (hn : argsL.length = ps.length) (hp : pc + 3 = pc') (hL : Ls.size = maxl) (hwd : (rest.map fun v => v.category).sum = wd) (hf : rm'.frames + 1 ≤ rm.frames) (hlo : wd + (maxL' + 11) + rm'.locals ≤ rm.locals) (hc : C + rm'.cells ≤ rm.cells) (hs : S + rm'.slots ≤ rm.slots) (K : ∀ T h' v sf', W Γ n0 T h' (C + rm'.cells) (S + rm'.slots) (sf' ++ sf) → QY v h' sf' → Go Γ n0 Q T (mkF Γ.m pc' Ls (v.toList ++ rest))) : Go Γ n0 Q T (mkF Γ.m pc Ls st) := by
  subst hp hst
  obtain ⟨hx, hZ0, hown0, hby, hml, hret, hnm, hlk, hR, hsH, hzz, hel, hew⟩ := G
  subst hzz hel
  obtain ⟨aw, hew⟩ := hew
  obtain ⟨L, vm0, k0, X, e, N, hS, hk, HD⟩ := X
  have hZ : Γ.Z.Warmed39 (Γ.s.setVm vm0).vm := State.Warmed39.trans hZ0 hS.1
  have hown : (Γ.s.setVm vm0).vm.findClass own = some Γ.m.cls := by rw [show (Γ.s.setVm vm0).vm = vm0 from rfl, hS.1.alike.findClass]; exact hown0
  obtain ⟨v1, _, ⟨T1, L1, k1, n1⟩, -, X1, hS1, hg1, ⟨Lc1, q1, l1, y1, z1, c1⟩, s1⟩ := superBackS X hx hZ hown w1 w2 w3 w4 hni (backHeld (Wd := wd) M hZ wc wz (hR ▸ hf) (hR ▸ hlo) hew HD.1.1 HD.2) e I (g := mkF Γ.m pc Ls (argsL.reverse ++ .ref a :: rest)) rfl (by rw [hml]; exact hL) wc (argsL := argsL) (rest := rest) (lenOf pd hn) rfl (by show 2 * 0 + _ ≤ _; omega) (hb hby hd) (fun _ _ => ⟨rfl, e, hR ▸ hc, hR ▸ hs⟩)
  dsimp only [Pt.U, Pt.locs, Pt.cells, Pt.slots] at X1 hS1 hg1 l1 y1 z1 s1 q1 c1
  subst l1 y1 z1
  obtain ⟨⟨sf1, q1, f1⟩, N1⟩ := q1
  exact Go.of (fun t k => s1.trans k) (K T1 _ v1 sf1 ⟨_, _, _, X1, rfl, Fr.app N N1, foldS hS (by rw [e]; exact hk) hS1 hg1, Nat.le_refl _, HD.1.trans c1, fun x hx => (List.mem_append.mp hx).elim (f1 x) fun m => ⟨Nat.lt_of_lt_of_le (HD.2 x m).1 c1.2.1, c1.safe (HD.2 x m).1 (HD.2 x m).2⟩⟩ q1)
/-! ### arrays: the components by a function of their place -/
def Arf (Z : State) (h : Heap) (a : Addr) (k : ClassId) (ty : FieldType) (n : Nat) (f : Nat → Value) : Prop := ∃ c : Cell, Arr Z h a c ty ∧ c.cls = k ∧ c.slots.size = n ∧ n < 2147483648 ∧ ∀ i, i < n → c.slots[i]? = some (f i) ∧ fits ty (f i) = true
section A
variable {h' : Heap} {a b : Addr} {k : ClassId} {ty : FieldType} {n : Nat} {f g : Nat → Value} {v : Value} {sl : Nat} {ws : List Addr}
theorem Arf.lt (F : Arf Z h a k ty n f) : a < h.size := by obtain ⟨c, A, -⟩ := F; exact A.lt
theorem Arf.ext (F : Arf Z h a k ty n f) (E : Ext h h') : Arf Z h' a k ty n f := by obtain ⟨c, A, r⟩ := F; exact ⟨c, A.ext E, r⟩
theorem Arf.other (F : Arf Z h b k ty n f) (W : Wr h h' a sl v) (q : b ≠ a) : Arf Z h' b k ty n f := by obtain ⟨c, A, r⟩ := F; exact ⟨c, A.other W q, r⟩
theorem Arf.keep (F : Arf Z h a k ty n f) (K : Keep h h' ws) (q : a ∉ ws) : Arf Z h' a k ty n f := by obtain ⟨c, A, r⟩ := F; exact ⟨c, ⟨K.2.1 a c A.1 q, A.2⟩, r⟩
theorem Arf.congr (F : Arf Z h a k ty n f) (q : ∀ i, i < n → f i = g i) : Arf Z h a k ty n g := by
  obtain ⟨c, A, r1, r2, r3, H⟩ := F
  exact ⟨c, A, r1, r2, r3, fun i hi => by rw [← q i hi]; exact H i hi⟩
theorem Arf.size_lt (F : Arf Z h a k ty n f) : n < 2147483648 := by obtain ⟨c, A, r1, r2, r3, H⟩ := F; exact r3
theorem Arf.fits (F : Arf Z h a k ty n f) {i : Nat} (hi : i < n) : fits ty (f i) = true := by obtain ⟨c, A, r1, r2, r3, H⟩ := F; exact (H i hi).2
theorem idx_of {j : Int32} {i : Nat} (hj : j.toInt = i) : ¬ j < 0 ∧ j.toNatClampNeg = i := by
  rw [Int32.lt_iff_toInt_lt, show (0 : Int32).toInt = 0 from rfl, hj]
  exact ⟨by omega, by simp only [Int32.toNatClampNeg, hj]; omega⟩
theorem Arf.set (F : Arf Z h a k ty n f) {i : Nat} (W : Wr h h' a i v) (hi : i < n) (hv : Jvm.fits ty v = true) : Arf Z h' a k ty n (fun x => if x = i then v else f x) := by
  obtain ⟨c, A, r1, r2, r3, H⟩ := F
  refine ⟨_, A.same W, r1, by rw [sz_set]; exact r2, r3, fun x hx => ?_⟩
  by_cases q : x = i
  · subst q
    refine ⟨?_, by simpa using hv⟩
    simp [Cell.setSlot, r2, hx]
  · refine ⟨?_, by simpa [q] using (H x hx).2⟩
    simp only [Cell.setSlot, if_neg q]
    rw [Array.getElem?_setIfInBounds_ne (fun e => q e.symm)]; exact (H x hx).1
theorem Arf.new {z : Int32} (A : Arr Z h a (newA k ty z) ty) (hz : z.toInt = n) : Arf Z h a k ty n (fun _ => defaultValue ty) := by
  have q := idx_of hz
  refine ⟨_, A, rfl, by rw [sz_new, q.2], by have := Int32.toInt_lt z; omega, fun i hi => ⟨?_, by cases ty <;> rfl⟩⟩
  simp [newA, q.2, hi]
theorem Arf.arv (F : Arf Z h a k ty n f) {z : Int32} (hz : z.toInt = n) (dv : Value) : Arv Z h a k ty z ((List.range n).map f) dv := by
  obtain ⟨c, A, r1, r2, r3, H⟩ := F
  have q := idx_of hz
  refine ⟨c, A, r1, by rw [r2, q.2], q.1, fun i hi => ?_, fun i hi => ?_⟩
  · rw [r2] at hi; rw [(H i hi).1]; simp [List.getD_eq_getElem?_getD, hi]
  · rw [r2] at hi; have := (H i hi).2; simpa [List.getD_eq_getElem?_getD, hi] using this
theorem Arf.of_arv {z : Int32} {vs : List Value} {dv : Value} (F : Arv Z h a k ty z vs dv) (hz : z.toInt = n) (q : ∀ i, i < n → vs.getD i dv = f i) : Arf Z h a k ty n f := by
  obtain ⟨c, A, r1, r2, r3, H, G⟩ := F
  have q' := idx_of hz
  refine ⟨c, A, r1, by rw [r2, q'.2], by have := Int32.toInt_lt z; omega, fun i hi => ?_⟩
  have hi' : i < c.slots.size := by rw [r2, q'.2]; exact hi
  rw [← q i hi]; exact ⟨H i hi', G i hi'⟩
theorem Pln_arf (F : Arf Z h a k ty n f) : ∀ cell : Cell, h[a]? = some cell → cell.vm.isStatics = false := fun cell hc => by obtain ⟨c, A, -⟩ := F; cases A.1.symm.trans hc; exact A.plain
theorem Arf.sto (F : Arf Z h a k ty n f) {CC : String} {y : Addr} (O : Ovr Z k CC) (I : Ins Z h y CC true) : Sto Z h a (.ref y) := by
  obtain ⟨c, A, r1, -⟩ := F; exact Sto.ofV A r1 O I
end A

theorem k_newP {a0 : Array Value} {aty : ArrayType} {z : Int32} {n cap : Nat} (G : Ctx Γ Z EL own bytes maxl ret nm rm hs0) (X : W Γ n0 T h C S sf) (w : (Cond.arrayClass (newarray.typeOf aty)).before a0 Z = true) (hd : decode bytes pc = .ok (.newarray aty, 2)) (hp : pc + 2 = pc') (hz : z.toInt = n) (hcap : n ≤ cap) (hbig : cap * 8 ≤ 536870912) (hc : C + 1 ≤ rm.cells) (hs : S + cap ≤ rm.slots) (K : ∀ T h' a k, h.size = a → Ext h h' → Arf Z h' a k (newarray.typeOf aty) n (fun _ => defaultValue (newarray.typeOf aty)) → W Γ n0 T h' (C + 1) (S + cap) (a :: sf) → Go Γ n0 Q T (mkF Γ.m pc' Ls (.ref a :: st))) : Go Γ n0 Q T (mkF Γ.m pc Ls (.int z :: st)) := by
  subst hp
  obtain ⟨hx, hZ0, hown0, hby, hml, hret, hnm, hlk, hR, hsH, hzz, hel, hew⟩ := G
  subst hzz hel
  obtain ⟨aw, hew⟩ := hew
  obtain ⟨L, vm0, k0, X, e, N, hS, hk, HD⟩ := X
  have hZ : Γ.Z.Warmed39 (Γ.s.setVm vm0).vm := State.Warmed39.trans hZ0 hS.1
  have hown : (Γ.s.setVm vm0).vm.findClass own = some Γ.m.cls := by rw [show (Γ.s.setVm vm0).vm = vm0 from rfl, hS.1.alike.findClass]; exact hown0
  obtain ⟨T', h', k', X', e', E', A', st'⟩ := newP X hx hZ w e (g := mkF Γ.m pc Ls (.int z :: st)) rfl (hb hby hd) rfl (idx_of hz).1 (cap := cap) (by rw [(idx_of hz).2]; exact hcap) hbig (hR ▸ hc) (hR ▸ hs)
  exact Go.of st' (K T' h' _ k' rfl E' (Arf.new A' hz) ⟨L, vm0, k0, X', e', N, hS, (Nat.le_trans hk E'.1), HD.new E' A'.lt⟩)
theorem k_newR {a0 : Array Value} {idx : Nat} {CC : String} {z : Int32} {n cap : Nat} (G : Ctx Γ Z EL own bytes maxl ret nm rm hs0) (X : W Γ n0 T h C S sf) (w1 : (Cond.classLink own idx CC).before a0 Z = true) (w2 : (Cond.arrayOver (.object CC)).before a0 Z = true) (hd : decode bytes pc = .ok (.anewarray idx, 3)) (hp : pc + 3 = pc') (hz : z.toInt = n) (hcap : n ≤ cap) (hbig : cap * 8 ≤ 536870912) (hc : C + 1 ≤ rm.cells) (hs : S + cap ≤ rm.slots) (K : ∀ T h' a k, h.size = a → Ext h h' → Arf Z h' a k (.object CC) n (fun _ => .null) → Ovr Z k CC → W Γ n0 T h' (C + 1) (S + cap) (a :: sf) → Go Γ n0 Q T (mkF Γ.m pc' Ls (.ref a :: st))) : Go Γ n0 Q T (mkF Γ.m pc Ls (.int z :: st)) := by
  subst hp
  obtain ⟨hx, hZ0, hown0, hby, hml, hret, hnm, hlk, hR, hsH, hzz, hel, hew⟩ := G
  subst hzz hel
  obtain ⟨aw, hew⟩ := hew
  obtain ⟨L, vm0, k0, X, e, N, hS, hk, HD⟩ := X
  have hZ : Γ.Z.Warmed39 (Γ.s.setVm vm0).vm := State.Warmed39.trans hZ0 hS.1
  have hown : (Γ.s.setVm vm0).vm.findClass own = some Γ.m.cls := by rw [show (Γ.s.setVm vm0).vm = vm0 from rfl, hS.1.alike.findClass]; exact hown0
  obtain ⟨T', h', k', X', e', E', A', O', st'⟩ := newR X hx hZ hown w1 w2 e (g := mkF Γ.m pc Ls (.int z :: st)) rfl (hb hby hd) rfl (idx_of hz).1 (cap := cap) (by rw [(idx_of hz).2]; exact hcap) hbig (hR ▸ hc) (hR ▸ hs)
  exact Go.of st' (K T' h' _ k' rfl E' (Arf.new A' hz) O' ⟨L, vm0, k0, X', e', N, hS, (Nat.le_trans hk E'.1), HD.new E' A'.lt⟩)
theorem k_alen {a : Addr} {k : ClassId} {ty : FieldType} {n : Nat} {f : Nat → Value} {z : Int32} (G : Ctx Γ Z EL own bytes maxl ret nm rm hs0) (X : W Γ n0 T h C S sf) (F : Arf Z h a k ty n f) (hz : z.toInt = n) (hd : decode bytes pc = .ok (.arraylength, 1)) (hp : pc + 1 = pc') (K : Go Γ n0 Q T (mkF Γ.m pc' Ls (.int z :: st))) : Go Γ n0 Q T (mkF Γ.m pc Ls (.ref a :: st)) := by
  subst hp
  obtain ⟨hx, hZ0, hown0, hby, hml, hret, hnm, hlk, hR, hsH, hzz, hel, hew⟩ := G
  subst hzz hel
  obtain ⟨aw, hew⟩ := hew
  obtain ⟨L, vm0, k0, X, e, N, hS, hk, HD⟩ := X
  have hZ : Γ.Z.Warmed39 (Γ.s.setVm vm0).vm := State.Warmed39.trans hZ0 hS.1
  have hown : (Γ.s.setVm vm0).vm.findClass own = some Γ.m.cls := by rw [show (Γ.s.setVm vm0).vm = vm0 from rfl, hS.1.alike.findClass]; exact hown0
  obtain ⟨cl, A, r1, r2, r3, H⟩ := F
  have q : cl.slots.size.toInt32 = z := by rw [r2]; exact Int32.toInt_inj.mp (by rw [len_toInt r3, hz])
  rw [← q] at K
  exact Go.of (fun t k' => X.arraylength hx (by rw [e]; exact A.1) (State.isArrayOf_alike hZ.alike A.2.1) (g := mkF Γ.m pc Ls (.ref a :: st)) rfl rfl (hb hby hd) t k') K
theorem k_iaload {a : Addr} {k : ClassId} {n i : Nat} {f : Nat → Value} {j : Int32} {v : Value} (G : Ctx Γ Z EL own bytes maxl ret nm rm hs0) (X : W Γ n0 T h C S sf) (F : Arf Z h a k .int n f) (hj : j.toInt = i) (hi : i < n) (hv : f i = v) (hd : decode bytes pc = .ok (.iaload, 1)) (hp : pc + 1 = pc') (K : Go Γ n0 Q T (mkF Γ.m pc' Ls (v :: st))) : Go Γ n0 Q T (mkF Γ.m pc Ls (.int j :: .ref a :: st)) := by
  subst hp hv
  obtain ⟨hx, hZ0, hown0, hby, hml, hret, hnm, hlk, hR, hsH, hzz, hel, hew⟩ := G
  subst hzz hel
  obtain ⟨aw, hew⟩ := hew
  obtain ⟨L, vm0, k0, X, e, N, hS, hk, HD⟩ := X
  have hZ : Γ.Z.Warmed39 (Γ.s.setVm vm0).vm := State.Warmed39.trans hZ0 hS.1
  have hown : (Γ.s.setVm vm0).vm.findClass own = some Γ.m.cls := by rw [show (Γ.s.setVm vm0).vm = vm0 from rfl, hS.1.alike.findClass]; exact hown0
  obtain ⟨cl, A, r1, r2, r3, H⟩ := F
  have q := idx_of hj
  exact Go.of (fun t k' => X.iaload hx (by rw [e]; exact A.1) (State.isArrayOf_alike hZ.alike A.2.1) A.2.2 (by rw [r2, q.2]; exact fun u => u.elim q.1 (Nat.not_le.mpr hi)) (by rw [q.2]; exact (H i hi).1) (g := mkF Γ.m pc Ls (.int j :: .ref a :: st)) rfl rfl (hb hby hd) t k') K
theorem k_caload {a : Addr} {k : ClassId} {n i : Nat} {f : Nat → Value} {j : Int32} {v : Value} (G : Ctx Γ Z EL own bytes maxl ret nm rm hs0) (X : W Γ n0 T h C S sf) (F : Arf Z h a k .char n f) (hj : j.toInt = i) (hi : i < n) (hv : f i = v) (hd : decode bytes pc = .ok (.caload, 1)) (hp : pc + 1 = pc') (K : Go Γ n0 Q T (mkF Γ.m pc' Ls (v :: st))) : Go Γ n0 Q T (mkF Γ.m pc Ls (.int j :: .ref a :: st)) := by
  subst hp hv
  obtain ⟨hx, hZ0, hown0, hby, hml, hret, hnm, hlk, hR, hsH, hzz, hel, hew⟩ := G
  subst hzz hel
  obtain ⟨aw, hew⟩ := hew
  obtain ⟨L, vm0, k0, X, e, N, hS, hk, HD⟩ := X
  have hZ : Γ.Z.Warmed39 (Γ.s.setVm vm0).vm := State.Warmed39.trans hZ0 hS.1
  have hown : (Γ.s.setVm vm0).vm.findClass own = some Γ.m.cls := by rw [show (Γ.s.setVm vm0).vm = vm0 from rfl, hS.1.alike.findClass]; exact hown0
  obtain ⟨cl, A, r1, r2, r3, H⟩ := F
  have q := idx_of hj
  exact Go.of (fun t k' => X.caload hx (by rw [e]; exact A.1) (State.isArrayOf_alike hZ.alike A.2.1) A.2.2 (by rw [r2, q.2]; exact fun u => u.elim q.1 (Nat.not_le.mpr hi)) (by rw [q.2]; exact (H i hi).1) (g := mkF Γ.m pc Ls (.int j :: .ref a :: st)) rfl rfl (hb hby hd) t k') K
theorem k_saload {a : Addr} {k : ClassId} {n i : Nat} {f : Nat → Value} {j : Int32} {v : Value} (G : Ctx Γ Z EL own bytes maxl ret nm rm hs0) (X : W Γ n0 T h C S sf) (F : Arf Z h a k .short n f) (hj : j.toInt = i) (hi : i < n) (hv : f i = v) (hd : decode bytes pc = .ok (.saload, 1)) (hp : pc + 1 = pc') (K : Go Γ n0 Q T (mkF Γ.m pc' Ls (v :: st))) : Go Γ n0 Q T (mkF Γ.m pc Ls (.int j :: .ref a :: st)) := by
  subst hp hv
  obtain ⟨hx, hZ0, hown0, hby, hml, hret, hnm, hlk, hR, hsH, hzz, hel, hew⟩ := G
  subst hzz hel
  obtain ⟨aw, hew⟩ := hew
  obtain ⟨L, vm0, k0, X, e, N, hS, hk, HD⟩ := X
  have hZ : Γ.Z.Warmed39 (Γ.s.setVm vm0).vm := State.Warmed39.trans hZ0 hS.1
  have hown : (Γ.s.setVm vm0).vm.findClass own = some Γ.m.cls := by rw [show (Γ.s.setVm vm0).vm = vm0 from rfl, hS.1.alike.findClass]; exact hown0
  obtain ⟨cl, A, r1, r2, r3, H⟩ := F
  have q := idx_of hj
  exact Go.of (fun t k' => X.saload hx (by rw [e]; exact A.1) (State.isArrayOf_alike hZ.alike A.2.1) A.2.2 (by rw [r2, q.2]; exact fun u => u.elim q.1 (Nat.not_le.mpr hi)) (by rw [q.2]; exact (H i hi).1) (g := mkF Γ.m pc Ls (.int j :: .ref a :: st)) rfl rfl (hb hby hd) t k') K
theorem k_laload {a : Addr} {k : ClassId} {n i : Nat} {f : Nat → Value} {j : Int32} {v : Value} (G : Ctx Γ Z EL own bytes maxl ret nm rm hs0) (X : W Γ n0 T h C S sf) (F : Arf Z h a k .long n f) (hj : j.toInt = i) (hi : i < n) (hv : f i = v) (hd : decode bytes pc = .ok (.laload, 1)) (hp : pc + 1 = pc') (K : Go Γ n0 Q T (mkF Γ.m pc' Ls (v :: st))) : Go Γ n0 Q T (mkF Γ.m pc Ls (.int j :: .ref a :: st)) := by
  subst hp hv
  obtain ⟨hx, hZ0, hown0, hby, hml, hret, hnm, hlk, hR, hsH, hzz, hel, hew⟩ := G
  subst hzz hel
  obtain ⟨aw, hew⟩ := hew
  obtain ⟨L, vm0, k0, X, e, N, hS, hk, HD⟩ := X
  have hZ : Γ.Z.Warmed39 (Γ.s.setVm vm0).vm := State.Warmed39.trans hZ0 hS.1
  have hown : (Γ.s.setVm vm0).vm.findClass own = some Γ.m.cls := by rw [show (Γ.s.setVm vm0).vm = vm0 from rfl, hS.1.alike.findClass]; exact hown0
  obtain ⟨cl, A, r1, r2, r3, H⟩ := F
  have q := idx_of hj
  exact Go.of (fun t k' => X.laload hx (by rw [e]; exact A.1) (State.isArrayOf_alike hZ.alike A.2.1) A.2.2 (by rw [r2, q.2]; exact fun u => u.elim q.1 (Nat.not_le.mpr hi)) (by rw [q.2]; exact (H i hi).1) (g := mkF Γ.m pc Ls (.int j :: .ref a :: st)) rfl rfl (hb hby hd) t k') K
theorem k_baload {a : Addr} {k : ClassId} {n i : Nat} {f : Nat → Value} {j : Int32} {v : Value} (G : Ctx Γ Z EL own bytes maxl ret nm rm hs0) (X : W Γ n0 T h C S sf) (F : Arf Z h a k .byte n f) (hj : j.toInt = i) (hi : i < n) (hv : f i = v) (hd : decode bytes pc = .ok (.baload, 1)) (hp : pc + 1 = pc') (K : Go Γ n0 Q T (mkF Γ.m pc' Ls (v :: st))) : Go Γ n0 Q T (mkF Γ.m pc Ls (.int j :: .ref a :: st)) := by
  subst hp hv
  obtain ⟨hx, hZ0, hown0, hby, hml, hret, hnm, hlk, hR, hsH, hzz, hel, hew⟩ := G
  subst hzz hel
  obtain ⟨aw, hew⟩ := hew
  obtain ⟨L, vm0, k0, X, e, N, hS, hk, HD⟩ := X
  have hZ : Γ.Z.Warmed39 (Γ.s.setVm vm0).vm := State.Warmed39.trans hZ0 hS.1
  have hown : (Γ.s.setVm vm0).vm.findClass own = some Γ.m.cls := by rw [show (Γ.s.setVm vm0).vm = vm0 from rfl, hS.1.alike.findClass]; exact hown0
  obtain ⟨cl, A, r1, r2, r3, H⟩ := F
  have q := idx_of hj
  exact Go.of (fun t k' => X.baloadBytes hx (by rw [e]; exact A.1) (State.isArrayOf_alike hZ.alike A.2.1) A.2.2 (by rw [r2, q.2]; exact fun u => u.elim q.1 (Nat.not_le.mpr hi)) (by rw [q.2]; exact (H i hi).1) (g := mkF Γ.m pc Ls (.int j :: .ref a :: st)) rfl rfl (hb hby hd) t k') K
theorem k_aaload {a : Addr} {k : ClassId} {ty : FieldType} {n i : Nat} {f : Nat → Value} {j : Int32} {v : Value} (G : Ctx Γ Z EL own bytes maxl ret nm rm hs0) (X : W Γ n0 T h C S sf) (F : Arf Z h a k ty n f) (hty : ty.isReference = true) (hj : j.toInt = i) (hi : i < n) (hv : f i = v) (hd : decode bytes pc = .ok (.aaload, 1)) (hp : pc + 1 = pc') (K : Go Γ n0 Q T (mkF Γ.m pc' Ls (v :: st))) : Go Γ n0 Q T (mkF Γ.m pc Ls (.int j :: .ref a :: st)) := by
  subst hp hv
  obtain ⟨hx, hZ0, hown0, hby, hml, hret, hnm, hlk, hR, hsH, hzz, hel, hew⟩ := G
  subst hzz hel
  obtain ⟨aw, hew⟩ := hew
  obtain ⟨L, vm0, k0, X, e, N, hS, hk, HD⟩ := X
  have hZ : Γ.Z.Warmed39 (Γ.s.setVm vm0).vm := State.Warmed39.trans hZ0 hS.1
  have hown : (Γ.s.setVm vm0).vm.findClass own = some Γ.m.cls := by rw [show (Γ.s.setVm vm0).vm = vm0 from rfl, hS.1.alike.findClass]; exact hown0
  obtain ⟨cl, A, r1, r2, r3, H⟩ := F
  have q := idx_of hj
  exact Go.of (fun t k' => X.aaload hx (by rw [e]; exact A.1) (State.isArrayOf_alike hZ.alike A.2.1) hty A.2.2 (by rw [r2, q.2]; exact fun u => u.elim q.1 (Nat.not_le.mpr hi)) (by rw [q.2]; exact (H i hi).1) (g := mkF Γ.m pc Ls (.int j :: .ref a :: st)) rfl rfl (hb hby hd) t k') K
theorem k_iastore {a : Addr} {k : ClassId} {n i : Nat} {f : Nat → Value} {j x z : Int32} (G : Ctx Γ Z EL own bytes maxl ret nm rm hs0) (X : W Γ n0 T h C S sf) (F : Arf Z h a k .int n f) (hj : j.toInt = i) (hi : i < n) (hz : x = z) (ga : n0 ≤ a) (ms : a ∈ sf) (hd : decode bytes pc = .ok (.iastore, 1)) (hp : pc + 1 = pc') (K : ∀ T h', Wr h h' a i (.int z) → Arf Z h' a k .int n (fun x => if x = i then (.int z) else f x) → W Γ n0 T h' C S sf → Go Γ n0 Q T (mkF Γ.m pc' Ls st)) : Go Γ n0 Q T (mkF Γ.m pc Ls (.int x :: .int j :: .ref a :: st)) := by
  subst hp hz
  obtain ⟨hx, hZ0, hown0, hby, hml, hret, hnm, hlk, hR, hsH, hzz, hel, hew⟩ := G
  subst hzz hel
  obtain ⟨aw, hew⟩ := hew
  obtain ⟨L, vm0, k0, X, e, N, hS, hk, HD⟩ := X
  have hZ : Γ.Z.Warmed39 (Γ.s.setVm vm0).vm := State.Warmed39.trans hZ0 hS.1
  have hown : (Γ.s.setVm vm0).vm.findClass own = some Γ.m.cls := by rw [show (Γ.s.setVm vm0).vm = vm0 from rfl, hS.1.alike.findClass]; exact hown0
  have F0 := F
  obtain ⟨cl, A, r1, r2, r3, H⟩ := F
  have q := idx_of hj
  obtain ⟨T', h', X', e', W', st'⟩ := stI X hx hZ e A (j := j) (x := x) (by rw [r2, q.2]; exact fun u => u.elim q.1 (Nat.not_le.mpr hi)) (g := mkF Γ.m pc Ls (.int x :: .int j :: .ref a :: st)) rfl rfl (hb hby hd)
  rw [q.2] at W' X'
  exact Go.of st' (K T' h' W' (F0.set W' hi (rfl)) ⟨_, vm0, k0, X', e', Fr.snoc X' N ga, hS, (by rw [W'.size]; exact hk), HD.wr W' ms⟩)
theorem k_castore {a : Addr} {k : ClassId} {n i : Nat} {f : Nat → Value} {j x z : Int32} (G : Ctx Γ Z EL own bytes maxl ret nm rm hs0) (X : W Γ n0 T h C S sf) (F : Arf Z h a k .char n f) (hj : j.toInt = i) (hi : i < n) (hz : nar .char x = z) (ga : n0 ≤ a) (ms : a ∈ sf) (hd : decode bytes pc = .ok (.castore, 1)) (hp : pc + 1 = pc') (K : ∀ T h', Wr h h' a i (.int z) → Arf Z h' a k .char n (fun x => if x = i then (.int z) else f x) → W Γ n0 T h' C S sf → Go Γ n0 Q T (mkF Γ.m pc' Ls st)) : Go Γ n0 Q T (mkF Γ.m pc Ls (.int x :: .int j :: .ref a :: st)) := by
  subst hp hz
  obtain ⟨hx, hZ0, hown0, hby, hml, hret, hnm, hlk, hR, hsH, hzz, hel, hew⟩ := G
  subst hzz hel
  obtain ⟨aw, hew⟩ := hew
  obtain ⟨L, vm0, k0, X, e, N, hS, hk, HD⟩ := X
  have hZ : Γ.Z.Warmed39 (Γ.s.setVm vm0).vm := State.Warmed39.trans hZ0 hS.1
  have hown : (Γ.s.setVm vm0).vm.findClass own = some Γ.m.cls := by rw [show (Γ.s.setVm vm0).vm = vm0 from rfl, hS.1.alike.findClass]; exact hown0
  have F0 := F
  obtain ⟨cl, A, r1, r2, r3, H⟩ := F
  have q := idx_of hj
  obtain ⟨T', h', X', e', W', st'⟩ := stC X hx hZ e A (j := j) (x := x) (by rw [r2, q.2]; exact fun u => u.elim q.1 (Nat.not_le.mpr hi)) (g := mkF Γ.m pc Ls (.int x :: .int j :: .ref a :: st)) rfl rfl (hb hby hd)
  rw [q.2] at W' X'
  exact Go.of st' (K T' h' W' (F0.set W' hi (fits_nar_char _)) ⟨_, vm0, k0, X', e', Fr.snoc X' N ga, hS, (by rw [W'.size]; exact hk), HD.wr W' ms⟩)
theorem k_sastore {a : Addr} {k : ClassId} {n i : Nat} {f : Nat → Value} {j x z : Int32} (G : Ctx Γ Z EL own bytes maxl ret nm rm hs0) (X : W Γ n0 T h C S sf) (F : Arf Z h a k .short n f) (hj : j.toInt = i) (hi : i < n) (hz : nar .short x = z) (ga : n0 ≤ a) (ms : a ∈ sf) (hd : decode bytes pc = .ok (.sastore, 1)) (hp : pc + 1 = pc') (K : ∀ T h', Wr h h' a i (.int z) → Arf Z h' a k .short n (fun x => if x = i then (.int z) else f x) → W Γ n0 T h' C S sf → Go Γ n0 Q T (mkF Γ.m pc' Ls st)) : Go Γ n0 Q T (mkF Γ.m pc Ls (.int x :: .int j :: .ref a :: st)) := by
  subst hp hz
  obtain ⟨hx, hZ0, hown0, hby, hml, hret, hnm, hlk, hR, hsH, hzz, hel, hew⟩ := G
  subst hzz hel
  obtain ⟨aw, hew⟩ := hew
  obtain ⟨L, vm0, k0, X, e, N, hS, hk, HD⟩ := X
  have hZ : Γ.Z.Warmed39 (Γ.s.setVm vm0).vm := State.Warmed39.trans hZ0 hS.1
  have hown : (Γ.s.setVm vm0).vm.findClass own = some Γ.m.cls := by rw [show (Γ.s.setVm vm0).vm = vm0 from rfl, hS.1.alike.findClass]; exact hown0
  have F0 := F
  obtain ⟨cl, A, r1, r2, r3, H⟩ := F
  have q := idx_of hj
  obtain ⟨T', h', X', e', W', st'⟩ := stS X hx hZ e A (j := j) (x := x) (by rw [r2, q.2]; exact fun u => u.elim q.1 (Nat.not_le.mpr hi)) (g := mkF Γ.m pc Ls (.int x :: .int j :: .ref a :: st)) rfl rfl (hb hby hd)
  rw [q.2] at W' X'
  exact Go.of st' (K T' h' W' (F0.set W' hi (fits_nar_short _)) ⟨_, vm0, k0, X', e', Fr.snoc X' N ga, hS, (by rw [W'.size]; exact hk), HD.wr W' ms⟩)
theorem k_bastore {a : Addr} {k : ClassId} {n i : Nat} {f : Nat → Value} {j x z : Int32} (G : Ctx Γ Z EL own bytes maxl ret nm rm hs0) (X : W Γ n0 T h C S sf) (F : Arf Z h a k .byte n f) (hj : j.toInt = i) (hi : i < n) (hz : nar .byte x = z) (ga : n0 ≤ a) (ms : a ∈ sf) (hd : decode bytes pc = .ok (.bastore, 1)) (hp : pc + 1 = pc') (K : ∀ T h', Wr h h' a i (.int z) → Arf Z h' a k .byte n (fun x => if x = i then (.int z) else f x) → W Γ n0 T h' C S sf → Go Γ n0 Q T (mkF Γ.m pc' Ls st)) : Go Γ n0 Q T (mkF Γ.m pc Ls (.int x :: .int j :: .ref a :: st)) := by
  subst hp hz
  obtain ⟨hx, hZ0, hown0, hby, hml, hret, hnm, hlk, hR, hsH, hzz, hel, hew⟩ := G
  subst hzz hel
  obtain ⟨aw, hew⟩ := hew
  obtain ⟨L, vm0, k0, X, e, N, hS, hk, HD⟩ := X
  have hZ : Γ.Z.Warmed39 (Γ.s.setVm vm0).vm := State.Warmed39.trans hZ0 hS.1
  have hown : (Γ.s.setVm vm0).vm.findClass own = some Γ.m.cls := by rw [show (Γ.s.setVm vm0).vm = vm0 from rfl, hS.1.alike.findClass]; exact hown0
  have F0 := F
  obtain ⟨cl, A, r1, r2, r3, H⟩ := F
  have q := idx_of hj
  obtain ⟨T', h', X', e', W', st'⟩ := stB X hx hZ e A (j := j) (x := x) (by rw [r2, q.2]; exact fun u => u.elim q.1 (Nat.not_le.mpr hi)) (g := mkF Γ.m pc Ls (.int x :: .int j :: .ref a :: st)) rfl rfl (hb hby hd)
  rw [q.2] at W' X'
  exact Go.of st' (K T' h' W' (F0.set W' hi (fits_nar_byte _)) ⟨_, vm0, k0, X', e', Fr.snoc X' N ga, hS, (by rw [W'.size]; exact hk), HD.wr W' ms⟩)
theorem k_lastore {a : Addr} {k : ClassId} {n i : Nat} {f : Nat → Value} {j : Int32} {y : Int64} (G : Ctx Γ Z EL own bytes maxl ret nm rm hs0) (X : W Γ n0 T h C S sf) (F : Arf Z h a k .long n f) (hj : j.toInt = i) (hi : i < n) (ga : n0 ≤ a) (ms : a ∈ sf) (hd : decode bytes pc = .ok (.lastore, 1)) (hp : pc + 1 = pc') (K : ∀ T h', Wr h h' a i (.long y) → Arf Z h' a k .long n (fun x => if x = i then (.long y) else f x) → W Γ n0 T h' C S sf → Go Γ n0 Q T (mkF Γ.m pc' Ls st)) : Go Γ n0 Q T (mkF Γ.m pc Ls (.long y :: .int j :: .ref a :: st)) := by
  subst hp
  obtain ⟨hx, hZ0, hown0, hby, hml, hret, hnm, hlk, hR, hsH, hzz, hel, hew⟩ := G
  subst hzz hel
  obtain ⟨aw, hew⟩ := hew
  obtain ⟨L, vm0, k0, X, e, N, hS, hk, HD⟩ := X
  have hZ : Γ.Z.Warmed39 (Γ.s.setVm vm0).vm := State.Warmed39.trans hZ0 hS.1
  have hown : (Γ.s.setVm vm0).vm.findClass own = some Γ.m.cls := by rw [show (Γ.s.setVm vm0).vm = vm0 from rfl, hS.1.alike.findClass]; exact hown0
  have F0 := F
  obtain ⟨cl, A, r1, r2, r3, H⟩ := F
  have q := idx_of hj
  obtain ⟨T', h', X', e', W', st'⟩ := stJ X hx hZ e A (j := j) (x := y) (by rw [r2, q.2]; exact fun u => u.elim q.1 (Nat.not_le.mpr hi)) (g := mkF Γ.m pc Ls (.long y :: .int j :: .ref a :: st)) rfl rfl (hb hby hd)
  rw [q.2] at W' X'
  exact Go.of st' (K T' h' W' (F0.set W' hi rfl) ⟨_, vm0, k0, X', e', Fr.snoc X' N ga, hS, (by rw [W'.size]; exact hk), HD.wr W' ms⟩)
theorem k_aastore {a : Addr} {k : ClassId} {ty : FieldType} {n i : Nat} {f : Nat → Value} {j : Int32} {v : Value} (G : Ctx Γ Z EL own bytes maxl ret nm rm hs0) (X : W Γ n0 T h C S sf) (F : Arf Z h a k ty n f) (hty : ty.isReference = true) (hj : j.toInt = i) (hi : i < n) (O : Sto Z h a v) (hv : fits ty v = true) (ga : n0 ≤ a) (ms : a ∈ sf) (hd : decode bytes pc = .ok (.aastore, 1)) (hp : pc + 1 = pc') (K : ∀ T h', Wr h h' a i v → Arf Z h' a k ty n (fun x => if x = i then v else f x) → W Γ n0 T h' C S sf → Go Γ n0 Q T (mkF Γ.m pc' Ls st)) : Go Γ n0 Q T (mkF Γ.m pc Ls (v :: .int j :: .ref a :: st)) := by
  subst hp
  obtain ⟨hx, hZ0, hown0, hby, hml, hret, hnm, hlk, hR, hsH, hzz, hel, hew⟩ := G
  subst hzz hel
  obtain ⟨aw, hew⟩ := hew
  obtain ⟨L, vm0, k0, X, e, N, hS, hk, HD⟩ := X
  have hZ : Γ.Z.Warmed39 (Γ.s.setVm vm0).vm := State.Warmed39.trans hZ0 hS.1
  have hown : (Γ.s.setVm vm0).vm.findClass own = some Γ.m.cls := by rw [show (Γ.s.setVm vm0).vm = vm0 from rfl, hS.1.alike.findClass]; exact hown0
  have F0 := F
  obtain ⟨cl, A, r1, r2, r3, H⟩ := F
  have q := idx_of hj
  obtain ⟨T', h', X', e', W', st'⟩ := stR X hx hZ e A (j := j) (v := v) (by rw [r2, q.2]; exact fun u => u.elim q.1 (Nat.not_le.mpr hi)) hty O (g := mkF Γ.m pc Ls (v :: .int j :: .ref a :: st)) rfl rfl (hb hby hd)
  rw [q.2] at W' X'
  exact Go.of st' (K T' h' W' (F0.set W' hi hv) ⟨_, vm0, k0, X', e', Fr.snoc X' N ga, hS, (by rw [W'.size]; exact hk), HD.wr W' ms⟩)
theorem k_copy {a0 : Array Value} {idx : Nat} {a b : Addr} {k k' : ClassId} {ty : FieldType} {n n' sp dp nn wd : Nat} {f g : Nat → Value} {js jd jn : Int32} (G : Ctx Γ Z EL own bytes maxl ret nm rm hs0) (X : W Γ n0 T h C S sf) (F : Arf Z h a k ty n f) (F' : Arf Z h b k' ty n' g) (hty : refKind ty = false)
    (w1 : (Cond.methodLink own idx Jvm.Stand.acN).before a0 Z = true) (w2 : (Cond.native Jvm.Stand.acN).before a0 Z = true) (w3 : (Cond.static Jvm.Stand.acN).before a0 Z = true) (w4 : (Cond.initialized "java/lang/System").before a0 Z = true)
    (hjs : js.toInt = sp) (hjd : jd.toInt = dp) (hjn : jn.toInt = nn) (h1 : sp + nn ≤ n) (h2 : dp + nn ≤ n') (gb : n0 ≤ b) (ms : b ∈ sf) (hd : decode bytes pc = .ok (.invokestatic idx, 3)) (hp : pc + 3 = pc') (hL : Ls.size = maxl) (hf : 1 ≤ rm.frames) (hwd : (st.map fun v => v.category).sum = wd) (hlo : wd + (nativeFrameWords "java/lang/System" "arraycopy" 5 + 11) ≤ rm.locals)
    (K : ∀ T h', Keep h h' [b] → Arf Z h' b k' ty n' (fun i => if dp ≤ i ∧ i < dp + nn then f (sp + (i - dp)) else g i) → W Γ n0 T h' C S sf → Go Γ n0 Q T (mkF Γ.m pc' Ls st)) : Go Γ n0 Q T (mkF Γ.m pc Ls (.int jn :: .int jd :: .ref b :: .int js :: .ref a :: st)) := by
  subst hp
  obtain ⟨hx, hZ0, hown0, hby, hml, hret, hnm, hlk, hR, hsH, hzz, hel, hew⟩ := G
  subst hzz hel
  obtain ⟨aw, hew⟩ := hew
  obtain ⟨L, vm0, k0, X, e, N, hS, hk, HD⟩ := X
  have hZ : Γ.Z.Warmed39 (Γ.s.setVm vm0).vm := State.Warmed39.trans hZ0 hS.1
  have hown : (Γ.s.setVm vm0).vm.findClass own = some Γ.m.cls := by rw [show (Γ.s.setVm vm0).vm = vm0 from rfl, hS.1.alike.findClass]; exact hown0
  obtain ⟨z, hz⟩ : ∃ z : Int32, z.toInt = n := ⟨n.toInt32, len_toInt F.size_lt⟩
  obtain ⟨z', hz'⟩ : ∃ z : Int32, z.toInt = n' := ⟨n'.toInt32, len_toInt F'.size_lt⟩
  have A := F.arv hz .null
  have B := F'.arv hz' .null
  obtain ⟨qs1, qs2⟩ := idx_of hjs
  obtain ⟨qd1, qd2⟩ := idx_of hjd
  obtain ⟨qn1, qn2⟩ := idx_of hjn
  obtain ⟨T', h', L', X', e', N', K', A', st'⟩ := cpA X hx hZ hown w1 w2 w3 w4 e A B (Or.inl ⟨rfl, hty⟩) qs1 qd1 qn1 (by rw [qs2, qn2, (idx_of hz).2]; exact h1) (by rw [qd2, qn2, (idx_of hz').2]; exact h2) rfl (by rw [qd2, qn2]; simpa using h2) N gb (g := mkF Γ.m pc Ls (.int jn :: .int jd :: .ref b :: .int js :: .ref a :: st)) rfl (by rw [hml]; exact hL) rfl (hb hby hd) (hR ▸ hf) (W := wd) (by show 2 * 0 + _ ≤ _; omega) (hR ▸ hlo)
  refine Go.of st' (K T' h' K' (Arf.of_arv A' hz' fun i hi => ?_) ⟨L', vm0, k0, X', e', N', hS, Nat.le_trans hk K'.1, HD.keep K' ms⟩)
  rw [qs2, qd2, qn2]
  simp only [List.getD_eq_getElem?_getD]
  have lt : (((List.range n').map g).take dp).length = dp := by simp; omega
  by_cases c1 : i < dp
  · rw [List.append_assoc, List.getElem?_append_left (by rw [lt]; exact c1), List.getElem?_take_of_lt c1, if_neg (by omega)]
    simp [hi]
  · by_cases c2 : i < dp + nn
    · rw [List.getElem?_append_left (by rw [List.length_append, lt]; simp; omega), List.getElem?_append_right (by omega), lt, if_pos (by omega)]
      have q1 : i - dp < nn := by omega
      have q2 : sp + (i - dp) < n := by omega
      simp [q1, q2]
    · rw [List.getElem?_append_right (by rw [List.length_append, lt]; simp; omega), if_neg (by omega), List.getElem?_drop]
      have q3 : dp + nn + (i - (((List.range n').map g).take dp ++ (List.range nn).map fun i => (((List.range n).map f)[sp + i]?).getD .null).length) = i := by rw [List.length_append, lt]; simp; omega
      rw [q3]; simp [hi]
theorem k_instNull {idx : Nat} (G : Ctx Γ Z EL own bytes maxl ret nm rm hs0) (X : W Γ n0 T h C S sf) (hd : decode bytes pc = .ok (.instanceof idx, 3)) (hp : pc + 3 = pc') (K : Go Γ n0 Q T (mkF Γ.m pc' Ls (.int 0 :: st))) : Go Γ n0 Q T (mkF Γ.m pc Ls (.null :: st)) := by
  subst hp
  obtain ⟨hx, hZ0, hown0, hby, hml, hret, hnm, hlk, hR, hsH, hzz, hel, hew⟩ := G
  subst hzz hel
  obtain ⟨aw, hew⟩ := hew
  obtain ⟨L, vm0, k0, X, e, N, hS, hk, HD⟩ := X
  have hZ : Γ.Z.Warmed39 (Γ.s.setVm vm0).vm := State.Warmed39.trans hZ0 hS.1
  have hown : (Γ.s.setVm vm0).vm.findClass own = some Γ.m.cls := by rw [show (Γ.s.setVm vm0).vm = vm0 from rfl, hS.1.alike.findClass]; exact hown0
  exact Go.of (fun t k => X.instanceofNull hx (g := mkF Γ.m pc Ls (.null :: st)) rfl rfl (hb hby hd) t k) K
theorem k_castNull {idx : Nat} (G : Ctx Γ Z EL own bytes maxl ret nm rm hs0) (X : W Γ n0 T h C S sf) (hd : decode bytes pc = .ok (.checkcast idx, 3)) (hp : pc + 3 = pc') (K : Go Γ n0 Q T (mkF Γ.m pc' Ls (.null :: st))) : Go Γ n0 Q T (mkF Γ.m pc Ls (.null :: st)) := by
  subst hp
  obtain ⟨hx, hZ0, hown0, hby, hml, hret, hnm, hlk, hR, hsH, hzz, hel, hew⟩ := G
  subst hzz hel
  obtain ⟨aw, hew⟩ := hew
  obtain ⟨L, vm0, k0, X, e, N, hS, hk, HD⟩ := X
  have hZ : Γ.Z.Warmed39 (Γ.s.setVm vm0).vm := State.Warmed39.trans hZ0 hS.1
  have hown : (Γ.s.setVm vm0).vm.findClass own = some Γ.m.cls := by rw [show (Γ.s.setVm vm0).vm = vm0 from rfl, hS.1.alike.findClass]; exact hown0
  exact Go.of (fun t k => X.checkcastNull hx (g := mkF Γ.m pc Ls (.null :: st)) rfl rfl (hb hby hd) t k) K
theorem k_instN {a0 : Array Value} {idx : Nat} {KK CC : String} {a : Addr} (G : Ctx Γ Z EL own bytes maxl ret nm rm hs0) (X : W Γ n0 T h C S sf) (w : (Cond.classLink own idx KK).before a0 Z = true) (F : Ins Z hs0 a KK false) (E : Exa Z hs0 a CC) (hd : decode bytes pc = .ok (.instanceof idx, 3)) (hp : pc + 3 = pc') (K : ∀ T, W Γ n0 T h C S sf → Go Γ n0 Q T (mkF Γ.m pc' Ls (.int 0 :: st))) : Go Γ n0 Q T (mkF Γ.m pc Ls (.ref a :: st)) := by
  subst hp
  obtain ⟨hx, hZ0, hown0, hby, hml, hret, hnm, hlk, hR, hsH, hzz, hel, hew⟩ := G
  subst hzz hel
  obtain ⟨aw, hew⟩ := hew
  obtain ⟨L, vm0, k0, X, e, N, hS, hk, HD⟩ := X
  have hZ : Γ.Z.Warmed39 (Γ.s.setVm vm0).vm := State.Warmed39.trans hZ0 hS.1
  have hown : (Γ.s.setVm vm0).vm.findClass own = some Γ.m.cls := by rw [show (Γ.s.setVm vm0).vm = vm0 from rfl, hS.1.alike.findClass]; exact hown0
  obtain ⟨T', X', e', st'⟩ := instN X hx hZ hown w e (show Ins Γ.Z Γ.s.heap a KK false by rw [hsH]; exact F) (show Exa Γ.Z Γ.s.heap a CC by rw [hsH]; exact E) (g := mkF Γ.m pc Ls (.ref a :: st)) rfl rfl (hb hby hd)
  exact Go.of st' (K T' ⟨L, vm0, k0, X', e', N, hS, hk, HD⟩)
theorem k_instNo {a0 : Array Value} {idx : Nat} {KK CC : String} {a : Addr} (G : Ctx Γ Z EL own bytes maxl ret nm rm hs0) (X : W Γ n0 T h C S sf) (w : (Cond.classLink own idx KK).before a0 Z = true) (E : Exa Z h a CC) (F : ∃ c t, Z.vm.findClass CC = some c ∧ Z.vm.findClass KK = some t ∧ Z.vm.assignable c t = false) (hd : decode bytes pc = .ok (.instanceof idx, 3)) (hp : pc + 3 = pc') (K : ∀ T, W Γ n0 T h C S sf → Go Γ n0 Q T (mkF Γ.m pc' Ls (.int 0 :: st))) : Go Γ n0 Q T (mkF Γ.m pc Ls (.ref a :: st)) := by
  subst hp
  obtain ⟨hx, hZ0, hown0, hby, hml, hret, hnm, hlk, hR, hsH, hzz, hel, hew⟩ := G
  subst hzz hel
  obtain ⟨aw, hew⟩ := hew
  obtain ⟨L, vm0, k0, X, e, N, hS, hk, HD⟩ := X
  have hZ : Γ.Z.Warmed39 (Γ.s.setVm vm0).vm := State.Warmed39.trans hZ0 hS.1
  have hown : (Γ.s.setVm vm0).vm.findClass own = some Γ.m.cls := by rw [show (Γ.s.setVm vm0).vm = vm0 from rfl, hS.1.alike.findClass]; exact hown0
  obtain ⟨T', X', e', st'⟩ := instNo X hx hZ hown w e E F (g := mkF Γ.m pc Ls (.ref a :: st)) rfl rfl (hb hby hd)
  exact Go.of st' (K T' ⟨L, vm0, k0, X', e', N, hS, hk, HD⟩)
theorem selP {a0 : Array Value} {y : MethodName} {n : Nat} (wi : (Cond.instantiable y.cls n).before a0 Z = true) (wp : (Cond.privateMethod y).before a0 Z = true) (w2 : (Cond.instanceMethod y).before a0 Z = true) (hy : y.cls ≠ "java/lang/invoke/MethodHandle" ∧ y.cls ≠ "java/lang/invoke/VarHandle") : (Cond.selects y.cls y y).before a0 Z = true := by
  obtain ⟨t, kt, g0, g1, g2, gr⟩ := Cond.instantiable_spec wi
  have gi : kt.isInterface = false := by have := gr.1; simp at this; exact this.1
  exact Jvm.Stand.selects_self_of_private g0 g1 gi (Cond.privateMethod_at wp) w2 hy
theorem noInst {a0 : Array Value} {CC KK : String} {n : Nat} (w : (Cond.superclass CC "java/lang/Object").before a0 Z = true) (wo : (Cond.noSuperclass "java/lang/Object").before a0 Z = true) (wi : (Cond.instantiable KK n).before a0 Z = true) (h1 : CC ≠ KK) (h2 : "java/lang/Object" ≠ KK) : ∃ c t, Z.vm.findClass CC = some c ∧ Z.vm.findClass KK = some t ∧ Z.vm.assignable c t = false := by
  obtain ⟨t, kt, g0, g1, g2, gr⟩ := Cond.instantiable_spec wi
  have gi : kt.isInterface = false := by have := gr.1; simp at this; exact this.1
  obtain ⟨o, ko, o1, o2, o3, -⟩ := Cond.noSuperclass_spec wo
  obtain ⟨c, h0⟩ := found_sup w
  obtain ⟨p, k, kp, q1, q2, q3, q4, q5, -, q7⟩ := Cond.superclass_spec h0 w
  cases o1.symm.trans q1
  have ne1 := ids_ne h0 g0 h1
  have ne2 := ids_ne o1 g0 h2
  have n3 : ∀ fuel, Z.vm.isSubclassAux fuel c t = false := fun fuel => by
    cases fuel with
    | zero => rfl
    | succ f =>
      have n2 : Z.vm.isSubclassAux f o t = false := by
        cases f with
        | zero => rfl
        | succ f => simp [Vm.isSubclassAux, ne2, o2, o3]
      simp [Vm.isSubclassAux, ne1, q2, q4, n2]
  refine ⟨c, t, h0, g0, ?_⟩
  show Z.vm.assignableAux (255 + 1) c t = false
  simp [Vm.assignableAux, ne1, q2, g1, q5, g2, gi, Vm.isSubclass, n3]
theorem Hd.later {Γ : Cx} {vm vm1 : Vm} {h h' : Heap} {sf : List Addr} (H : Hd Γ vm h sf) (c : CHr Γ.Z Γ.EL vm h vm1 h') : Hd Γ vm1 h' sf := ⟨H.1.trans c, fun x m => ⟨Nat.lt_of_lt_of_le (H.2 x m).1 c.2.1, c.safe (H.2 x m).1 (H.2 x m).2⟩⟩
theorem k_ldcS {a0 : Array Value} {idx n : Nat} {text : String} (G : Ctx Γ Z EL own bytes maxl ret nm rm hs0) (X : W Γ n0 T h C S sf) (w : (Cond.stringLink own idx text).before a0 Z = true) (wS : ∀ a ∈ Bundle.stringAtoms, a.before a0 Z = true) (hd : decode bytes pc = .ok (.ldc idx, 2)) (hp : pc + 2 = pc') (hn : 4 * text.toList.length ≤ n) (hbig : n ≤ 536870912) (hc : C + 2 ≤ rm.cells) (hs : S + (n + 4) ≤ rm.slots) (K : ∀ T h' a, Ext h h' → W Γ n0 T h' (C + 2) (S + (n + 4)) sf → Go Γ n0 Q T (mkF Γ.m pc' Ls (.ref a :: st))) : Go Γ n0 Q T (mkF Γ.m pc Ls st) := by
  subst hp
  obtain ⟨hx, hZ0, hown0, hby, hml, hret, hnm, hlk, hR, hsH, hzz, hel, hew⟩ := G
  subst hzz hel
  obtain ⟨aw, hew⟩ := hew
  obtain ⟨L, vm0, k0, X, e, N, hS, hk, HD⟩ := X
  have hZ : Γ.Z.Warmed39 (Γ.s.setVm vm0).vm := State.Warmed39.trans hZ0 hS.1
  have hown : (Γ.s.setVm vm0).vm.findClass own = some Γ.m.cls := by rw [show (Γ.s.setVm vm0).vm = vm0 from rfl, hS.1.alike.findClass]; exact hown0
  obtain ⟨a, T', h', k1, X', e', E', hS', hk', -, -, c1, -, st'⟩ := ldcOH X hx hZ hown w wS e hS hk hew HD.1.1 (g := mkF Γ.m pc Ls st) rfl (hb hby hd) hn hbig (hR ▸ hc) (hR ▸ hs)
  exact Go.of st' (K T' h' a E' ⟨L, T'.vm, k1, X', e', N, hS', hk', HD.later c1⟩)
theorem k_ldcH {a0 : Array Value} {idx n : Nat} {text : String} {vs : List Int32} {z : Int32} (G : Ctx Γ Z EL own bytes maxl ret nm rm hs0) (X : W Γ n0 T h C S sf) (w : (Cond.stringLink own idx text).before a0 Z = true) (wS : ∀ a ∈ Bundle.stringAtoms, a.before a0 Z = true) (hmem : (own, idx) ∈ EL) (ht : (∀ c ∈ text.toList, c.toNat < 256) ∧ text.toList.map (fun c => Value.int (Jvm.Lit.byteI c.toNat.toUInt16)) = vs.map Value.int) (hz : z.toInt = vs.length) (hd : decode bytes pc = .ok (.ldc idx, 2)) (hp : pc + 2 = pc') (hn : 4 * text.toList.length ≤ n) (hbig : n ≤ 536870912) (hc : C + 2 ≤ rm.cells) (hs : S + (n + 4) ≤ rm.slots) (K : ∀ T h' a b k, Ext h h' → Exa Z h' a "java/lang/String" → Fld Z h' a "java/lang/String" "coder" "B" (.int 0) → Fld Z h' a "java/lang/String" "value" "[B" (.ref b) → Arf Z h' b k .byte vs.length (fun i => .int (vs.getD i 0)) → (∀ x ∈ sf, x ≠ a ∧ x ≠ b) → W Γ n0 T h' (C + 2) (S + (n + 4)) sf → Go Γ n0 Q T (mkF Γ.m pc' Ls (.ref a :: st))) : Go Γ n0 Q T (mkF Γ.m pc Ls st) := by
  subst hp
  obtain ⟨hx, hZ0, hown0, hby, hml, hret, hnm, hlk, hR, hsH, hzz, hel, hew⟩ := G
  subst hzz hel
  obtain ⟨aw, hew⟩ := hew
  obtain ⟨L, vm0, k0, X, e, N, hS, hk, HD⟩ := X
  have hZ : Γ.Z.Warmed39 (Γ.s.setVm vm0).vm := State.Warmed39.trans hZ0 hS.1
  have hown : (Γ.s.setVm vm0).vm.findClass own = some Γ.m.cls := by rw [show (Γ.s.setVm vm0).vm = vm0 from rfl, hS.1.alike.findClass]; exact hown0
  obtain ⟨a, T', h', k1, b, k, X', e', E', hS', hk', -, -, F1, F2, F3, F4, -, -, c1, -, hne, st'⟩ := ldcCH X hx hZ hown w wS e hS hk hew hmem HD.1.1 ht (idx_of hz).1 (by rw [(idx_of hz).2, List.length_map]) (g := mkF Γ.m pc Ls st) rfl (hb hby hd) hn hbig (hR ▸ hc) (hR ▸ hs)
  exact Go.of st' (K T' h' a b k E' F1 F2 F3 (Arf.of_arv F4 hz fun i hi => by rw [List.getD_eq_getElem?_getD, List.getD_eq_getElem?_getD, List.getElem?_map]; cases vs[i]? <;> rfl) (fun x m => hne x ((HD.later c1).2 x m).2) ⟨L, T'.vm, k1, X', e', N, hS', hk', HD.later c1⟩)
theorem W.addA {x : Addr} {k : ClassId} {ty : FieldType} {n : Nat} {f : Nat → Value} (G : Ctx Γ Z EL own bytes maxl ret nm rm hs0) (X : W Γ n0 T h C S sf) (F : Arf Z h x k ty n f) (h1 : ty ≠ .byte) : W Γ n0 T h C S (x :: sf) := by
  obtain ⟨hx, hZ0, hown0, hby, hml, hret, hnm, hlk, hR, hsH, hzz, hel, hew⟩ := G
  subst hzz hel
  obtain ⟨L, v, k, X, e, N, a, b, H⟩ := X
  refine ⟨L, v, k, X, e, N, a, b, H.1, fun y hy => ?_⟩
  rcases List.mem_cons.mp hy with rfl | hy
  · obtain ⟨cl, A, -⟩ := id F; exact ⟨F.lt, Safe.arr (State.Warmed39.trans hZ0 a.1).alike A h1⟩
  · exact H.2 y hy
/-! ### facts -/
theorem W.eq {h' : Heap} (X : W Γ n0 T h' C S sf) (e : h' = h) : W Γ n0 T h C S sf := e ▸ X
theorem Old_le (O : Old Z n0 h) : n0 ≤ h.size := by rw [← O.1]; exact O.2.1
theorem Sta_old {CC n d : String} {v : Value} (O : Old Z n0 h) (F : Sta Z Z.heap CC n d v) : Sta Z h CC n d v := F.ext O.2
theorem Fld_old {CC n d : String} {v : Value} {a : Addr} (O : Old Z n0 h) (F : Fld Z Z.heap a CC n d v) : Fld Z h a CC n d v := F.ext O.2
theorem Exa_old {CC : String} {a : Addr} (O : Old Z n0 h) (F : Exa Z Z.heap a CC) : Exa Z h a CC := F.ext O.2
theorem Sta_keep {h' : Heap} {CC n d : String} {v : Value} (F : Sta Z h CC n d v) (K : Keep h h' []) : Sta Z h' CC n d v := by
  obtain ⟨cf, i, k, f, st, cell, h1, h2, h3, h4, h5, h6, h7⟩ := F
  exact ⟨cf, i, k, f, st, cell, h1, h2, h3, h4, K.2.1 _ _ h5 nin0, h6, h7⟩
def Pln (h : Heap) (a : Addr) : Prop := ∀ cell : Cell, h[a]? = some cell → cell.vm.isStatics = false
theorem Pln_exa {a : Addr} {CC : String} (E : Exa Z h a CC) : Pln h a := fun cell hc => by obtain ⟨c1, _, h1, -, -, h4, -⟩ := E; cases h1.symm.trans hc; exact h4
theorem Pln_fld {a : Addr} {CC n d : String} {v : Value} (F : Fld Z h a CC n d v) : Pln h a := old_plain F
theorem Sta_keepL {h' : Heap} {CC n d : String} {v : Value} {ws : List Addr} (F : Sta Z h CC n d v) (K : Keep h h' ws) (q : ∀ w ∈ ws, Pln h w) : Sta Z h' CC n d v := by
  obtain ⟨cf, i, k, f, st, cell, h1, h2, h3, h4, h5, h6, h7⟩ := F
  exact ⟨cf, i, k, f, st, cell, h1, h2, h3, h4, K.2.1 _ _ h5 (fun hm => by have := q _ hm _ h5; rw [h6] at this; cases this), h6, h7⟩
end K
section Words
variable {s : State} {args : Array Value}
theorem s_exa {CC K n d : String} (hx : (Cond.exactly (Term.static CC n d) K).value args s none s [] = some true) (hi : (Cond.initialized CC).before args s = true) (hl : (Cond.laysStatic CC n d).before args s = true) : ∃ a, Sta s s.heap CC n d (.ref a) ∧ Exa s s.heap a K ∧ (Term.static CC n d).eval args s none [] s = some (.ref a) := by
  obtain ⟨a, ev⟩ := exa_v hx
  exact ⟨a, Sta.start ev (Or.inr ⟨hi, hl⟩), Exa.start ev hx, ev⟩
theorem s_fldI {t : Term} {a : Addr} {O n d : String} {z : Int32} (ev : t.eval args s none [] s = some (.ref a)) (hx : (Cond.eq (Term.field t O n d) (Term.int z)).value args s none s [] = some true) : Fld s s.heap a O n d (.int z) := by
  refine Fld.start ?_
  rw [← fld_at (args := args) (first := s) (o := none) (idx := []) ev]
  simp only [Cond.value, Term.int_eval] at hx
  cases hf : (Term.field t O n d).eval args s none [] s with
  | none => simp [hf] at hx
  | some v => cases v <;> simp [hf] at hx; rw [hx]
theorem s_fldN {t : Term} {a : Addr} {O n d : String} (ev : t.eval args s none [] s = some (.ref a)) (hx : (Cond.eq (Term.field t O n d) Term.null).value args s none s [] = some true) : Fld s s.heap a O n d .null := by
  refine Fld.start ?_
  rw [← fld_at (args := args) (first := s) (o := none) (idx := []) ev]
  exact null_v hx
theorem s_fldX {t : Term} {a : Addr} {O n d K : String} (ev : t.eval args s none [] s = some (.ref a)) (hx : (Cond.exactly (Term.field t O n d) K).value args s none s [] = some true) : ∃ b, Fld s s.heap a O n d (.ref b) ∧ Exa s s.heap b K := by
  obtain ⟨b, eb⟩ := exa_v hx
  refine ⟨b, Fld.start ?_, Exa.start eb hx⟩
  rw [← fld_at (args := args) (first := s) (o := none) (idx := []) ev]; exact eb
theorem len_none {t : Term} {x : Addr} {cl : Cell} {first : State} {o : Option Outcome} {idx : List Nat} (ht : t.eval args first o idx s = some (.ref x)) (ha : s.arrayAt? x = some cl) (hl : ¬ cl.slots.size < 2 ^ 31) : (Term.length t).eval args first o idx s = none := by simp [Term.eval, ht, ha, hl]
theorem s_arr2 {CC n d : String} {E : String} (hx : (Cond.exactly (Term.static CC n d) E).before args s = true) (hi : (Cond.initializedFor CC n d).before args s = true ∨ ((Cond.initialized CC).before args s = true ∧ (Cond.laysStatic CC n d).before args s = true)) (ha : (Cond.arrayOf (Term.static CC n d) (.object "java/lang/Object")).before args s = true) (hl : (Cond.eq (Term.length (Term.static CC n d)) (Term.int 0)).before args s = true) : ∃ a k, Sta s s.heap CC n d (.ref a) ∧ Arf s s.heap a k (.object "java/lang/Object") 0 (fun _ => .null) := by
  obtain ⟨a, ev⟩ := exa_v (Cond.before_iff.mp hx)
  obtain ⟨c, A⟩ := Arr.start ev (Cond.before_iff.mp ha)
  refine ⟨a, c.cls, Sta.start ev hi, c, A, rfl, ?_, by decide, fun i hi => absurd hi (Nat.not_lt_zero _)⟩
  have hl' := Cond.before_iff.mp hl
  have A2 := A.fin (Vm.Alike.refl _)
  by_cases hb : c.slots.size < 2 ^ 31
  · have q := gotT (Cond.eq_ints (len_f ev A2 hb) (Term.int_eval 0)) hl'
    have := congrArg Int32.toInt q
    rw [len_toInt hb, z32] at this
    omega
  · exfalso
    have : (Term.length (Term.static CC n d)).eval args s none [] s = none := len_none ev A2 hb
    simp [Cond.value, this] at hl'
theorem s_cs {CC n d : String} (h0 : (Cond.initializedFor CC n d).before args s = true) (h1 : (Cond.isInt (Term.static CC n d)).before args s = true) (h2 : (Cond.not (Cond.eq (Term.static CC n d) (Term.int 0))).before args s = true) : ∃ cs : Int32, Sta s s.heap CC n d (.int cs) ∧ cs ≠ 0 := by
  obtain ⟨x, ev⟩ := is_v (Cond.before_iff.mp h1)
  refine ⟨x, Sta.start ev (Or.inl h0), fun q => ?_⟩
  have := not_v (Cond.before_iff.mp h2)
  subst q
  rw [eq_i ev (Term.int_eval 0) rfl] at this
  cases this
end Words
theorem lcmp_self (x : Int64) : (if x > x then (1 : Int32) else if x = x then 0 else -1) = 0 := by rw [if_neg (Int64.lt_irrefl), if_pos rfl]
theorem of_toInt {z w : Int32} (h : z.toInt = w.toInt) : z = w := Int32.toInt_inj.mp h
theorem of_toInt64 {z w : Int64} (h : z.toInt = w.toInt) : z = w := Int64.toInt_inj.mp h
theorem rgI (x : Int32) : -2147483648 ≤ x.toInt ∧ x.toInt < 2147483648 := ⟨Int32.le_toInt x, Int32.toInt_lt x⟩
theorem rgL (x : Int64) : -9223372036854775808 ≤ x.toInt ∧ x.toInt < 9223372036854775808 := ⟨Int64.le_toInt x, Int64.toInt_lt x⟩
theorem and_rng (x : Int32) {m : Int32} (k : Int) (hk : m.toInt = k) (h : 0 ≤ k) : 0 ≤ (x &&& m).toInt ∧ (x &&& m).toInt ≤ k := by subst hk; exact c_and x m h
theorem rem_rng (x : Int32) {y : Int32} (d : Int) (hy : y.toInt = d) (hd : 0 < d) (hx : 0 ≤ x.toInt) : 0 ≤ (x % y).toInt ∧ (x % y).toInt < d := by
  rw [(c_irem x y d hy).1 hx]; exact ⟨Int.emod_nonneg _ (by omega), Int.emod_lt_of_pos _ hd⟩
theorem iadd_toInt {x y : Int32} (h1 : -2147483648 ≤ x.toInt + y.toInt) (h2 : x.toInt + y.toInt < 2147483648) : (x + y).toInt = x.toInt + y.toInt := by
  have := c_iadd x y; have := rgI (x + y); omega
theorem isub_toInt {x y : Int32} (h1 : -2147483648 ≤ x.toInt - y.toInt) (h2 : x.toInt - y.toInt < 2147483648) : (x - y).toInt = x.toInt - y.toInt := by
  have := c_isub x y; have := rgI (x - y); omega
theorem ladd_toInt {x y : Int64} (h1 : -9223372036854775808 ≤ x.toInt + y.toInt) (h2 : x.toInt + y.toInt < 9223372036854775808) : (x + y).toInt = x.toInt + y.toInt := by
  have := c_ladd x y; have := rgL (x + y); omega
theorem lcmp_toInt {x y : Int64} {z : Int32} (q : (if x > y then (1 : Int32) else if x = y then 0 else -1) = z) : (x.toInt < y.toInt → z.toInt = -1) ∧ (x.toInt = y.toInt → z.toInt = 0) ∧ (y.toInt < x.toInt → z.toInt = 1) := by
  subst q; exact c_lcmp x y
theorem and3 (x : Int32) : x &&& 3 = 0 ∨ x &&& 3 = 1 ∨ x &&& 3 = 2 ∨ x &&& 3 = 3 := by
  have h : ∀ b : BitVec 32, b &&& 3#32 = 0#32 ∨ b &&& 3#32 = 1#32 ∨ b &&& 3#32 = 2#32 ∨ b &&& 3#32 = 3#32 := fun b => by
    have e : (b &&& 3#32).toNat < 4 := by rw [BitVec.toNat_and]; exact Nat.lt_of_le_of_lt Nat.and_le_right (by decide)
    have : (b &&& 3#32).toNat = 0 ∨ (b &&& 3#32).toNat = 1 ∨ (b &&& 3#32).toNat = 2 ∨ (b &&& 3#32).toNat = 3 := by omega
    rcases this with q | q | q | q
    · exact Or.inl (BitVec.eq_of_toNat_eq q)
    · exact Or.inr (Or.inl (BitVec.eq_of_toNat_eq q))
    · exact Or.inr (Or.inr (Or.inl (BitVec.eq_of_toNat_eq q)))
    · exact Or.inr (Or.inr (Or.inr (BitVec.eq_of_toNat_eq q)))
  rcases h x.toBitVec with q | q | q | q
  · exact Or.inl (Int32.toBitVec_inj.mp q)
  · exact Or.inr (Or.inl (Int32.toBitVec_inj.mp q))
  · exact Or.inr (Or.inr (Or.inl (Int32.toBitVec_inj.mp q)))
  · exact Or.inr (Or.inr (Or.inr (Int32.toBitVec_inj.mp q)))
end Jvm.OwnK
namespace Jvm.Pilot.@@N@@
open Jvm Jvm.ClassFile Sem Op Lib Jvm.Free Jvm.Stand Jvm.LawKit Jvm.RoadKit Jvm.OwnK Bundle Jvm.Pilot.@@N@@.Jvm.D
abbrev HW (a0 : Array Value) (Z : State) : Prop := ∀ d ∈ tables_1, d.before a0 Z = true
section Wds
variable {a0 : Array Value} {Z : State}
theorem w0 (hw : HW a0 Z) : Jvm.Cond.before (Jvm.Cond.arrayClass Jvm.ClassFile.FieldType.char) a0 Z = true := hw _ (List.mem_of_getElem? (i := 0) rfl)
theorem w1 (hw : HW a0 Z) : Jvm.Cond.before (Jvm.Cond.methodLink "com/example/half_message_commit/halfmessagecommit/protocol/TextUtf8LengthPinLaw" (19 : Nat) ({ cls := "com/example/half_message_commit/halfmessagecommit/protocol/TextUtf8LengthPinLaw", name := "fill", desc := "([CIII)I" } : Jvm.MethodName)) a0 Z = true := hw _ (List.mem_of_getElem? (i := 1) rfl)
theorem w2 (hw : HW a0 Z) : Jvm.Cond.before (Jvm.Cond.static ({ cls := "com/example/half_message_commit/halfmessagecommit/protocol/TextUtf8LengthPinLaw", name := "fill", desc := "([CIII)I" } : Jvm.MethodName)) a0 Z = true := hw _ (List.mem_of_getElem? (i := 2) rfl)
theorem w3 (hw : HW a0 Z) : Jvm.Cond.before (Jvm.Cond.initialized "com/example/half_message_commit/halfmessagecommit/protocol/TextUtf8LengthPinLaw") a0 Z = true := hw _ (List.mem_of_getElem? (i := 3) rfl)
theorem w4 (hw : HW a0 Z) : Jvm.Cond.before (Jvm.Cond.code ({ cls := "com/example/half_message_commit/halfmessagecommit/protocol/TextUtf8LengthPinLaw", name := "fill", desc := "([CIII)I" } : Jvm.MethodName) method_3_code (6 : Nat) (Option.some Jvm.ClassFile.FieldType.int)) a0 Z = true := hw _ (List.mem_of_getElem? (i := 4) rfl)
theorem w5 (hw : HW a0 Z) : Jvm.Cond.before (Jvm.Cond.methodLink "com/example/half_message_commit/halfmessagecommit/protocol/TextUtf8LengthPinLaw" (12 : Nat) ({ cls := "com/example/half_message_commit/halfmessagecommit/protocol/TextUtf8LengthPinLaw", name := "cp", desc := "(II)I" } : Jvm.MethodName)) a0 Z = true := hw _ (List.mem_of_getElem? (i := 5) rfl)
theorem w6 (hw : HW a0 Z) : Jvm.Cond.before (Jvm.Cond.static ({ cls := "com/example/half_message_commit/halfmessagecommit/protocol/TextUtf8LengthPinLaw", name := "cp", desc := "(II)I" } : Jvm.MethodName)) a0 Z = true := hw _ (List.mem_of_getElem? (i := 6) rfl)
theorem w7 (hw : HW a0 Z) : Jvm.Cond.before (Jvm.Cond.code ({ cls := "com/example/half_message_commit/halfmessagecommit/protocol/TextUtf8LengthPinLaw", name := "cp", desc := "(II)I" } : Jvm.MethodName) method_2_code (4 : Nat) (Option.some Jvm.ClassFile.FieldType.int)) a0 Z = true := hw _ (List.mem_of_getElem? (i := 7) rfl)
theorem w8 (hw : HW a0 Z) : Jvm.Cond.before (Jvm.Cond.constant "com/example/half_message_commit/halfmessagecommit/protocol/TextUtf8LengthPinLaw" (7 : Nat) (63488 : Int32)) a0 Z = true := hw _ (List.mem_of_getElem? (i := 8) rfl)
theorem w9 (hw : HW a0 Z) : Jvm.Cond.before (Jvm.Cond.constant "com/example/half_message_commit/halfmessagecommit/protocol/TextUtf8LengthPinLaw" (8 : Nat) (55296 : Int32)) a0 Z = true := hw _ (List.mem_of_getElem? (i := 9) rfl)
theorem w10 (hw : HW a0 Z) : Jvm.Cond.before (Jvm.Cond.classLink "com/example/half_message_commit/halfmessagecommit/protocol/TextUtf8LengthPinLaw" (23 : Nat) "java/lang/String") a0 Z = true := hw _ (List.mem_of_getElem? (i := 10) rfl)
theorem w11 (hw : HW a0 Z) : Jvm.Cond.before (Jvm.Cond.instantiable "java/lang/String" (4 : Nat)) a0 Z = true := hw _ (List.mem_of_getElem? (i := 11) rfl)
theorem w12 (hw : HW a0 Z) : Jvm.Cond.before (Jvm.Cond.initialized "java/lang/String") a0 Z = true := hw _ (List.mem_of_getElem? (i := 12) rfl)
theorem w13 (hw : HW a0 Z) : Jvm.Cond.before (Jvm.Cond.methodLink "com/example/half_message_commit/halfmessagecommit/protocol/TextUtf8LengthPinLaw" (25 : Nat) ({ cls := "java/lang/String", name := "<init>", desc := "([C)V" } : Jvm.MethodName)) a0 Z = true := hw _ (List.mem_of_getElem? (i := 13) rfl)
theorem w14 (hw : HW a0 Z) : Jvm.Cond.before (Jvm.Cond.instanceMethod ({ cls := "java/lang/String", name := "<init>", desc := "([C)V" } : Jvm.MethodName)) a0 Z = true := hw _ (List.mem_of_getElem? (i := 14) rfl)
theorem w15 (hw : HW a0 Z) : Jvm.Cond.before (Jvm.Cond.code ({ cls := "java/lang/String", name := "<init>", desc := "([C)V" } : Jvm.MethodName) jdk_42_method_3_code (2 : Nat) (Option.none : Option Jvm.ClassFile.FieldType)) a0 Z = true := hw _ (List.mem_of_getElem? (i := 15) rfl)
theorem w16 (hw : HW a0 Z) : Jvm.Cond.before (Jvm.Cond.methodLink "java/lang/String" (27 : Nat) ({ cls := "java/lang/String", name := "<init>", desc := "([CIILjava/lang/Void;)V" } : Jvm.MethodName)) a0 Z = true := hw _ (List.mem_of_getElem? (i := 16) rfl)
theorem w17 (hw : HW a0 Z) : Jvm.Cond.before (Jvm.Cond.instanceMethod ({ cls := "java/lang/String", name := "<init>", desc := "([CIILjava/lang/Void;)V" } : Jvm.MethodName)) a0 Z = true := hw _ (List.mem_of_getElem? (i := 17) rfl)
theorem w19 (hw : HW a0 Z) : Jvm.Cond.before (Jvm.Cond.code ({ cls := "java/lang/String", name := "<init>", desc := "([CIILjava/lang/Void;)V" } : Jvm.MethodName) jdk_42_method_149_code (6 : Nat) (Option.none : Option Jvm.ClassFile.FieldType)) a0 Z = true := hw _ (List.mem_of_getElem? (i := 19) rfl)
theorem w20 (hw : HW a0 Z) : Jvm.Cond.before (Jvm.Cond.methodLink "java/lang/String" (1 : Nat) ({ cls := "java/lang/Object", name := "<init>", desc := "()V" } : Jvm.MethodName)) a0 Z = true := hw _ (List.mem_of_getElem? (i := 20) rfl)
theorem w21 (hw : HW a0 Z) : Jvm.Cond.before (Jvm.Cond.instanceMethod ({ cls := "java/lang/Object", name := "<init>", desc := "()V" } : Jvm.MethodName)) a0 Z = true := hw _ (List.mem_of_getElem? (i := 21) rfl)
theorem w22 (hw : HW a0 Z) : Jvm.Cond.before (Jvm.Cond.code ({ cls := "java/lang/Object", name := "<init>", desc := "()V" } : Jvm.MethodName) object_method_1_code (1 : Nat) (Option.none : Option Jvm.ClassFile.FieldType)) a0 Z = true := hw _ (List.mem_of_getElem? (i := 22) rfl)
theorem w23 (hw : HW a0 Z) : Jvm.Cond.before (Jvm.Cond.fieldLink "java/lang/String" (38 : Nat) "java/lang/String" "COMPACT_STRINGS" "Z") a0 Z = true := hw _ (List.mem_of_getElem? (i := 23) rfl)
theorem w24 (hw : HW a0 Z) : Jvm.Cond.before (Jvm.Cond.methodLink "java/lang/String" (177 : Nat) ({ cls := "java/lang/StringUTF16", name := "compress", desc := "([CII)[B" } : Jvm.MethodName)) a0 Z = true := hw _ (List.mem_of_getElem? (i := 24) rfl)
theorem w25 (hw : HW a0 Z) : Jvm.Cond.before (Jvm.Cond.static ({ cls := "java/lang/StringUTF16", name := "compress", desc := "([CII)[B" } : Jvm.MethodName)) a0 Z = true := hw _ (List.mem_of_getElem? (i := 25) rfl)
theorem w26 (hw : HW a0 Z) : Jvm.Cond.before (Jvm.Cond.initialized "java/lang/StringUTF16") a0 Z = true := hw _ (List.mem_of_getElem? (i := 26) rfl)
theorem w27 (hw : HW a0 Z) : Jvm.Cond.before (Jvm.Cond.code ({ cls := "java/lang/StringUTF16", name := "compress", desc := "([CII)[B" } : Jvm.MethodName) jdk_52_method_16_code (6 : Nat) (Option.some (Jvm.ClassFile.FieldType.array Jvm.ClassFile.FieldType.byte))) a0 Z = true := hw _ (List.mem_of_getElem? (i := 27) rfl)
theorem w28 (hw : HW a0 Z) : Jvm.Cond.before (Jvm.Cond.arrayClass Jvm.ClassFile.FieldType.byte) a0 Z = true := hw _ (List.mem_of_getElem? (i := 28) rfl)
theorem w29 (hw : HW a0 Z) : Jvm.Cond.before (Jvm.Cond.methodLink "java/lang/StringUTF16" (115 : Nat) ({ cls := "java/lang/StringUTF16", name := "compress", desc := "([CI[BII)I" } : Jvm.MethodName)) a0 Z = true := hw _ (List.mem_of_getElem? (i := 29) rfl)
theorem w30 (hw : HW a0 Z) : Jvm.Cond.before (Jvm.Cond.static ({ cls := "java/lang/StringUTF16", name := "compress", desc := "([CI[BII)I" } : Jvm.MethodName)) a0 Z = true := hw _ (List.mem_of_getElem? (i := 30) rfl)
theorem w31 (hw : HW a0 Z) : Jvm.Cond.before (Jvm.Cond.code ({ cls := "java/lang/StringUTF16", name := "compress", desc := "([CI[BII)I" } : Jvm.MethodName) jdk_52_method_21_code (7 : Nat) (Option.some Jvm.ClassFile.FieldType.int)) a0 Z = true := hw _ (List.mem_of_getElem? (i := 31) rfl)
theorem w32 (hw : HW a0 Z) : Jvm.Cond.before (Jvm.Cond.methodLink "java/lang/StringUTF16" (119 : Nat) ({ cls := "java/lang/StringUTF16", name := "toBytes", desc := "([CII)[B" } : Jvm.MethodName)) a0 Z = true := hw _ (List.mem_of_getElem? (i := 32) rfl)
theorem w33 (hw : HW a0 Z) : Jvm.Cond.before (Jvm.Cond.static ({ cls := "java/lang/StringUTF16", name := "toBytes", desc := "([CII)[B" } : Jvm.MethodName)) a0 Z = true := hw _ (List.mem_of_getElem? (i := 33) rfl)
theorem w34 (hw : HW a0 Z) : Jvm.Cond.before (Jvm.Cond.code ({ cls := "java/lang/StringUTF16", name := "toBytes", desc := "([CII)[B" } : Jvm.MethodName) jdk_52_method_14_code (5 : Nat) (Option.some (Jvm.ClassFile.FieldType.array Jvm.ClassFile.FieldType.byte))) a0 Z = true := hw _ (List.mem_of_getElem? (i := 34) rfl)
theorem w35 (hw : HW a0 Z) : Jvm.Cond.before (Jvm.Cond.methodLink "java/lang/StringUTF16" (107 : Nat) ({ cls := "java/lang/StringUTF16", name := "newBytesFor", desc := "(I)[B" } : Jvm.MethodName)) a0 Z = true := hw _ (List.mem_of_getElem? (i := 35) rfl)
theorem w36 (hw : HW a0 Z) : Jvm.Cond.before (Jvm.Cond.static ({ cls := "java/lang/StringUTF16", name := "newBytesFor", desc := "(I)[B" } : Jvm.MethodName)) a0 Z = true := hw _ (List.mem_of_getElem? (i := 36) rfl)
theorem w37 (hw : HW a0 Z) : Jvm.Cond.before (Jvm.Cond.code ({ cls := "java/lang/StringUTF16", name := "newBytesFor", desc := "(I)[B" } : Jvm.MethodName) jdk_52_method_2_code (1 : Nat) (Option.some (Jvm.ClassFile.FieldType.array Jvm.ClassFile.FieldType.byte))) a0 Z = true := hw _ (List.mem_of_getElem? (i := 37) rfl)
theorem w38 (hw : HW a0 Z) : Jvm.Cond.before (Jvm.Cond.methodLink "java/lang/StringUTF16" (11 : Nat) ({ cls := "java/lang/StringUTF16", name := "newBytesLength", desc := "(I)I" } : Jvm.MethodName)) a0 Z = true := hw _ (List.mem_of_getElem? (i := 38) rfl)
theorem w39 (hw : HW a0 Z) : Jvm.Cond.before (Jvm.Cond.static ({ cls := "java/lang/StringUTF16", name := "newBytesLength", desc := "(I)I" } : Jvm.MethodName)) a0 Z = true := hw _ (List.mem_of_getElem? (i := 39) rfl)
theorem w40 (hw : HW a0 Z) : Jvm.Cond.before (Jvm.Cond.code ({ cls := "java/lang/StringUTF16", name := "newBytesLength", desc := "(I)I" } : Jvm.MethodName) jdk_52_method_3_code (1 : Nat) (Option.some Jvm.ClassFile.FieldType.int)) a0 Z = true := hw _ (List.mem_of_getElem? (i := 40) rfl)
theorem w41 (hw : HW a0 Z) : Jvm.Cond.before (Jvm.Cond.constant "java/lang/StringUTF16" (20 : Nat) (1073741823 : Int32)) a0 Z = true := hw _ (List.mem_of_getElem? (i := 41) rfl)
theorem w42 (hw : HW a0 Z) : Jvm.Cond.before (Jvm.Cond.methodLink "java/lang/StringUTF16" (111 : Nat) ({ cls := "java/lang/StringUTF16", name := "putChar", desc := "([BII)V" } : Jvm.MethodName)) a0 Z = true := hw _ (List.mem_of_getElem? (i := 42) rfl)
theorem w43 (hw : HW a0 Z) : Jvm.Cond.before (Jvm.Cond.static ({ cls := "java/lang/StringUTF16", name := "putChar", desc := "([BII)V" } : Jvm.MethodName)) a0 Z = true := hw _ (List.mem_of_getElem? (i := 43) rfl)
theorem w44 (hw : HW a0 Z) : Jvm.Cond.before (Jvm.Cond.code ({ cls := "java/lang/StringUTF16", name := "putChar", desc := "([BII)V" } : Jvm.MethodName) jdk_52_method_4_code (3 : Nat) (Option.none : Option Jvm.ClassFile.FieldType)) a0 Z = true := hw _ (List.mem_of_getElem? (i := 44) rfl)
theorem w45 (hw : HW a0 Z) : Jvm.Cond.before (Jvm.Cond.fieldLink "java/lang/StringUTF16" (44 : Nat) "java/lang/StringUTF16" "$assertionsDisabled" "Z") a0 Z = true := hw _ (List.mem_of_getElem? (i := 45) rfl)
theorem w46 (hw : HW a0 Z) : Jvm.Cond.before (Jvm.Cond.fieldLink "java/lang/StringUTF16" (59 : Nat) "java/lang/StringUTF16" "HI_BYTE_SHIFT" "I") a0 Z = true := hw _ (List.mem_of_getElem? (i := 46) rfl)
theorem w47 (hw : HW a0 Z) : Jvm.Cond.before (Jvm.Cond.fieldLink "java/lang/StringUTF16" (63 : Nat) "java/lang/StringUTF16" "LO_BYTE_SHIFT" "I") a0 Z = true := hw _ (List.mem_of_getElem? (i := 47) rfl)
theorem w48 (hw : HW a0 Z) : Jvm.Cond.before (Jvm.Cond.methodLink "java/lang/StringUTF16" (71 : Nat) ({ cls := "java/lang/StringUTF16", name := "getChar", desc := "([BI)C" } : Jvm.MethodName)) a0 Z = true := hw _ (List.mem_of_getElem? (i := 48) rfl)
theorem w49 (hw : HW a0 Z) : Jvm.Cond.before (Jvm.Cond.static ({ cls := "java/lang/StringUTF16", name := "getChar", desc := "([BI)C" } : Jvm.MethodName)) a0 Z = true := hw _ (List.mem_of_getElem? (i := 49) rfl)
theorem w50 (hw : HW a0 Z) : Jvm.Cond.before (Jvm.Cond.code ({ cls := "java/lang/StringUTF16", name := "getChar", desc := "([BI)C" } : Jvm.MethodName) jdk_52_method_5_code (2 : Nat) (Option.some Jvm.ClassFile.FieldType.char)) a0 Z = true := hw _ (List.mem_of_getElem? (i := 50) rfl)
theorem w51 (hw : HW a0 Z) : Jvm.Cond.before (Jvm.Cond.methodLink "java/lang/String" (47 : Nat) ({ cls := "java/lang/StringUTF16", name := "coderFromArrayLen", desc := "([BI)B" } : Jvm.MethodName)) a0 Z = true := hw _ (List.mem_of_getElem? (i := 51) rfl)
theorem w52 (hw : HW a0 Z) : Jvm.Cond.before (Jvm.Cond.static ({ cls := "java/lang/StringUTF16", name := "coderFromArrayLen", desc := "([BI)B" } : Jvm.MethodName)) a0 Z = true := hw _ (List.mem_of_getElem? (i := 52) rfl)
theorem w53 (hw : HW a0 Z) : Jvm.Cond.before (Jvm.Cond.code ({ cls := "java/lang/StringUTF16", name := "coderFromArrayLen", desc := "([BI)B" } : Jvm.MethodName) jdk_52_method_15_code (2 : Nat) (Option.some Jvm.ClassFile.FieldType.byte)) a0 Z = true := hw _ (List.mem_of_getElem? (i := 53) rfl)
theorem w54 (hw : HW a0 Z) : Jvm.Cond.before (Jvm.Cond.fieldLink "java/lang/String" (15 : Nat) "java/lang/String" "coder" "B") a0 Z = true := hw _ (List.mem_of_getElem? (i := 54) rfl)
theorem w55 (hw : HW a0 Z) : Jvm.Cond.before (Jvm.Cond.laysFinal "java/lang/String" "java/lang/String" "coder" "B") a0 Z = true := hw _ (List.mem_of_getElem? (i := 55) rfl)
theorem w56 (hw : HW a0 Z) : Jvm.Cond.before (Jvm.Cond.fieldLink "java/lang/String" (9 : Nat) "java/lang/String" "value" "[B") a0 Z = true := hw _ (List.mem_of_getElem? (i := 56) rfl)
theorem w57 (hw : HW a0 Z) : Jvm.Cond.before (Jvm.Cond.laysFinal "java/lang/String" "java/lang/String" "value" "[B") a0 Z = true := hw _ (List.mem_of_getElem? (i := 57) rfl)
theorem w58 (hw : HW a0 Z) : Jvm.Cond.before (Jvm.Cond.stringLink "com/example/half_message_commit/halfmessagecommit/protocol/TextUtf8LengthPinLaw" (28 : Nat) "text") a0 Z = true := hw _ (List.mem_of_getElem? (i := 58) rfl)
theorem w61 (hw : HW a0 Z) : Jvm.Cond.before (Jvm.Cond.methodLink "com/example/half_message_commit/halfmessagecommit/protocol/TextUtf8LengthPinLaw" (30 : Nat) ({ cls := "com/example/half_message_commit/halfmessagecommit/protocol/Text", name := "utf8Length", desc := "(Ljava/lang/String;Ljava/lang/String;)J" } : Jvm.MethodName)) a0 Z = true := hw _ (List.mem_of_getElem? (i := 61) rfl)
theorem w62 (hw : HW a0 Z) : Jvm.Cond.before (Jvm.Cond.static ({ cls := "com/example/half_message_commit/halfmessagecommit/protocol/Text", name := "utf8Length", desc := "(Ljava/lang/String;Ljava/lang/String;)J" } : Jvm.MethodName)) a0 Z = true := hw _ (List.mem_of_getElem? (i := 62) rfl)
theorem w63 (hw : HW a0 Z) : Jvm.Cond.before (Jvm.Cond.initialized "com/example/half_message_commit/halfmessagecommit/protocol/Text") a0 Z = true := hw _ (List.mem_of_getElem? (i := 63) rfl)
theorem w64 (hw : HW a0 Z) : Jvm.Cond.before (Jvm.Cond.code ({ cls := "com/example/half_message_commit/halfmessagecommit/protocol/Text", name := "utf8Length", desc := "(Ljava/lang/String;Ljava/lang/String;)J" } : Jvm.MethodName) prog_26_method_5_code (6 : Nat) (Option.some Jvm.ClassFile.FieldType.long)) a0 Z = true := hw _ (List.mem_of_getElem? (i := 64) rfl)
theorem w65 (hw : HW a0 Z) : Jvm.Cond.before (Jvm.Cond.methodLink "com/example/half_message_commit/halfmessagecommit/protocol/Text" (77 : Nat) ({ cls := "java/lang/String", name := "length", desc := "()I" } : Jvm.MethodName)) a0 Z = true := hw _ (List.mem_of_getElem? (i := 65) rfl)
theorem w66 (hw : HW a0 Z) : Jvm.Cond.before (Jvm.Cond.declares ({ cls := "java/lang/String", name := "length", desc := "()I" } : Jvm.MethodName)) a0 Z = true := hw _ (List.mem_of_getElem? (i := 66) rfl)
theorem w67 (hw : HW a0 Z) : Jvm.Cond.before (Jvm.Cond.instanceMethod ({ cls := "java/lang/String", name := "length", desc := "()I" } : Jvm.MethodName)) a0 Z = true := hw _ (List.mem_of_getElem? (i := 67) rfl)
theorem w68 (hw : HW a0 Z) : Jvm.Cond.before (Jvm.Cond.selects "java/lang/String" ({ cls := "java/lang/String", name := "length", desc := "()I" } : Jvm.MethodName) ({ cls := "java/lang/String", name := "length", desc := "()I" } : Jvm.MethodName)) a0 Z = true := hw _ (List.mem_of_getElem? (i := 68) rfl)
theorem w69 (hw : HW a0 Z) : Jvm.Cond.before (Jvm.Cond.code ({ cls := "java/lang/String", name := "length", desc := "()I" } : Jvm.MethodName) jdk_42_method_54_code (1 : Nat) (Option.some Jvm.ClassFile.FieldType.int)) a0 Z = true := hw _ (List.mem_of_getElem? (i := 69) rfl)
theorem w70 (hw : HW a0 Z) : Jvm.Cond.before (Jvm.Cond.methodLink "java/lang/String" (335 : Nat) ({ cls := "java/lang/String", name := "coder", desc := "()B" } : Jvm.MethodName)) a0 Z = true := hw _ (List.mem_of_getElem? (i := 70) rfl)
theorem w71 (hw : HW a0 Z) : Jvm.Cond.before (Jvm.Cond.declares ({ cls := "java/lang/String", name := "coder", desc := "()B" } : Jvm.MethodName)) a0 Z = true := hw _ (List.mem_of_getElem? (i := 71) rfl)
theorem w72 (hw : HW a0 Z) : Jvm.Cond.before (Jvm.Cond.instanceMethod ({ cls := "java/lang/String", name := "coder", desc := "()B" } : Jvm.MethodName)) a0 Z = true := hw _ (List.mem_of_getElem? (i := 72) rfl)
theorem w73 (hw : HW a0 Z) : Jvm.Cond.before (Jvm.Cond.selects "java/lang/String" ({ cls := "java/lang/String", name := "coder", desc := "()B" } : Jvm.MethodName) ({ cls := "java/lang/String", name := "coder", desc := "()B" } : Jvm.MethodName)) a0 Z = true := hw _ (List.mem_of_getElem? (i := 73) rfl)
theorem w74 (hw : HW a0 Z) : Jvm.Cond.before (Jvm.Cond.code ({ cls := "java/lang/String", name := "coder", desc := "()B" } : Jvm.MethodName) jdk_42_method_152_code (1 : Nat) (Option.some Jvm.ClassFile.FieldType.byte)) a0 Z = true := hw _ (List.mem_of_getElem? (i := 74) rfl)
theorem w75 (hw : HW a0 Z) : Jvm.Cond.before (Jvm.Cond.methodLink "com/example/half_message_commit/halfmessagecommit/protocol/Text" (81 : Nat) ({ cls := "com/example/half_message_commit/halfmessagecommit/protocol/Text", name := "requireWhole", desc := "(Ljava/lang/String;Ljava/lang/String;I)V" } : Jvm.MethodName)) a0 Z = true := hw _ (List.mem_of_getElem? (i := 75) rfl)
theorem w76 (hw : HW a0 Z) : Jvm.Cond.before (Jvm.Cond.static ({ cls := "com/example/half_message_commit/halfmessagecommit/protocol/Text", name := "requireWhole", desc := "(Ljava/lang/String;Ljava/lang/String;I)V" } : Jvm.MethodName)) a0 Z = true := hw _ (List.mem_of_getElem? (i := 76) rfl)
theorem w77 (hw : HW a0 Z) : Jvm.Cond.before (Jvm.Cond.code ({ cls := "com/example/half_message_commit/halfmessagecommit/protocol/Text", name := "requireWhole", desc := "(Ljava/lang/String;Ljava/lang/String;I)V" } : Jvm.MethodName) prog_26_method_6_code (3 : Nat) (Option.none : Option Jvm.ClassFile.FieldType)) a0 Z = true := hw _ (List.mem_of_getElem? (i := 77) rfl)
theorem w78 (hw : HW a0 Z) : Jvm.Cond.before (Jvm.Cond.methodLink "com/example/half_message_commit/halfmessagecommit/protocol/Text" (100 : Nat) ({ cls := "java/lang/String", name := "charAt", desc := "(I)C" } : Jvm.MethodName)) a0 Z = true := hw _ (List.mem_of_getElem? (i := 78) rfl)
theorem w79 (hw : HW a0 Z) : Jvm.Cond.before (Jvm.Cond.declares ({ cls := "java/lang/String", name := "charAt", desc := "(I)C" } : Jvm.MethodName)) a0 Z = true := hw _ (List.mem_of_getElem? (i := 79) rfl)
theorem w80 (hw : HW a0 Z) : Jvm.Cond.before (Jvm.Cond.instanceMethod ({ cls := "java/lang/String", name := "charAt", desc := "(I)C" } : Jvm.MethodName)) a0 Z = true := hw _ (List.mem_of_getElem? (i := 80) rfl)
theorem w81 (hw : HW a0 Z) : Jvm.Cond.before (Jvm.Cond.selects "java/lang/String" ({ cls := "java/lang/String", name := "charAt", desc := "(I)C" } : Jvm.MethodName) ({ cls := "java/lang/String", name := "charAt", desc := "(I)C" } : Jvm.MethodName)) a0 Z = true := hw _ (List.mem_of_getElem? (i := 81) rfl)
theorem w82 (hw : HW a0 Z) : Jvm.Cond.before (Jvm.Cond.code ({ cls := "java/lang/String", name := "charAt", desc := "(I)C" } : Jvm.MethodName) jdk_42_method_56_code (2 : Nat) (Option.some Jvm.ClassFile.FieldType.char)) a0 Z = true := hw _ (List.mem_of_getElem? (i := 82) rfl)
theorem w83 (hw : HW a0 Z) : Jvm.Cond.before (Jvm.Cond.methodLink "java/lang/String" (492 : Nat) ({ cls := "java/lang/String", name := "isLatin1", desc := "()Z" } : Jvm.MethodName)) a0 Z = true := hw _ (List.mem_of_getElem? (i := 83) rfl)
theorem w84 (hw : HW a0 Z) : Jvm.Cond.before (Jvm.Cond.declares ({ cls := "java/lang/String", name := "isLatin1", desc := "()Z" } : Jvm.MethodName)) a0 Z = true := hw _ (List.mem_of_getElem? (i := 84) rfl)
theorem w85 (hw : HW a0 Z) : Jvm.Cond.before (Jvm.Cond.instanceMethod ({ cls := "java/lang/String", name := "isLatin1", desc := "()Z" } : Jvm.MethodName)) a0 Z = true := hw _ (List.mem_of_getElem? (i := 85) rfl)
theorem w86 (hw : HW a0 Z) : Jvm.Cond.before (Jvm.Cond.selects "java/lang/String" ({ cls := "java/lang/String", name := "isLatin1", desc := "()Z" } : Jvm.MethodName) ({ cls := "java/lang/String", name := "isLatin1", desc := "()Z" } : Jvm.MethodName)) a0 Z = true := hw _ (List.mem_of_getElem? (i := 86) rfl)
theorem w87 (hw : HW a0 Z) : Jvm.Cond.before (Jvm.Cond.code ({ cls := "java/lang/String", name := "isLatin1", desc := "()Z" } : Jvm.MethodName) jdk_42_method_154_code (1 : Nat) (Option.some Jvm.ClassFile.FieldType.boolean)) a0 Z = true := hw _ (List.mem_of_getElem? (i := 87) rfl)
theorem w88 (hw : HW a0 Z) : Jvm.Cond.before (Jvm.Cond.methodLink "java/lang/String" (498 : Nat) ({ cls := "java/lang/StringUTF16", name := "charAt", desc := "([BI)C" } : Jvm.MethodName)) a0 Z = true := hw _ (List.mem_of_getElem? (i := 88) rfl)
theorem w89 (hw : HW a0 Z) : Jvm.Cond.before (Jvm.Cond.static ({ cls := "java/lang/StringUTF16", name := "charAt", desc := "([BI)C" } : Jvm.MethodName)) a0 Z = true := hw _ (List.mem_of_getElem? (i := 89) rfl)
theorem w90 (hw : HW a0 Z) : Jvm.Cond.before (Jvm.Cond.code ({ cls := "java/lang/StringUTF16", name := "charAt", desc := "([BI)C" } : Jvm.MethodName) jdk_52_method_83_code (2 : Nat) (Option.some Jvm.ClassFile.FieldType.char)) a0 Z = true := hw _ (List.mem_of_getElem? (i := 90) rfl)
theorem w91 (hw : HW a0 Z) : Jvm.Cond.before (Jvm.Cond.methodLink "java/lang/StringUTF16" (67 : Nat) ({ cls := "java/lang/StringUTF16", name := "checkIndex", desc := "(I[B)V" } : Jvm.MethodName)) a0 Z = true := hw _ (List.mem_of_getElem? (i := 91) rfl)
theorem w92 (hw : HW a0 Z) : Jvm.Cond.before (Jvm.Cond.static ({ cls := "java/lang/StringUTF16", name := "checkIndex", desc := "(I[B)V" } : Jvm.MethodName)) a0 Z = true := hw _ (List.mem_of_getElem? (i := 92) rfl)
theorem w93 (hw : HW a0 Z) : Jvm.Cond.before (Jvm.Cond.code ({ cls := "java/lang/StringUTF16", name := "checkIndex", desc := "(I[B)V" } : Jvm.MethodName) jdk_52_method_91_code (2 : Nat) (Option.none : Option Jvm.ClassFile.FieldType)) a0 Z = true := hw _ (List.mem_of_getElem? (i := 93) rfl)
theorem w94 (hw : HW a0 Z) : Jvm.Cond.before (Jvm.Cond.methodLink "java/lang/StringUTF16" (48 : Nat) ({ cls := "java/lang/StringUTF16", name := "length", desc := "([B)I" } : Jvm.MethodName)) a0 Z = true := hw _ (List.mem_of_getElem? (i := 94) rfl)
theorem w95 (hw : HW a0 Z) : Jvm.Cond.before (Jvm.Cond.static ({ cls := "java/lang/StringUTF16", name := "length", desc := "([B)I" } : Jvm.MethodName)) a0 Z = true := hw _ (List.mem_of_getElem? (i := 95) rfl)
theorem w96 (hw : HW a0 Z) : Jvm.Cond.before (Jvm.Cond.code ({ cls := "java/lang/StringUTF16", name := "length", desc := "([B)I" } : Jvm.MethodName) jdk_52_method_6_code (1 : Nat) (Option.some Jvm.ClassFile.FieldType.int)) a0 Z = true := hw _ (List.mem_of_getElem? (i := 96) rfl)
theorem w97 (hw : HW a0 Z) : Jvm.Cond.before (Jvm.Cond.methodLink "java/lang/StringUTF16" (414 : Nat) ({ cls := "java/lang/String", name := "checkIndex", desc := "(II)V" } : Jvm.MethodName)) a0 Z = true := hw _ (List.mem_of_getElem? (i := 97) rfl)
theorem w98 (hw : HW a0 Z) : Jvm.Cond.before (Jvm.Cond.static ({ cls := "java/lang/String", name := "checkIndex", desc := "(II)V" } : Jvm.MethodName)) a0 Z = true := hw _ (List.mem_of_getElem? (i := 98) rfl)
theorem w99 (hw : HW a0 Z) : Jvm.Cond.before (Jvm.Cond.code ({ cls := "java/lang/String", name := "checkIndex", desc := "(II)V" } : Jvm.MethodName) jdk_42_method_155_code (2 : Nat) (Option.none : Option Jvm.ClassFile.FieldType)) a0 Z = true := hw _ (List.mem_of_getElem? (i := 99) rfl)
theorem w100 (hw : HW a0 Z) : Jvm.Cond.before (Jvm.Cond.fieldLink "java/lang/String" (1053 : Nat) "jdk/internal/util/Preconditions" "SIOOBE_FORMATTER" "Ljava/util/function/BiFunction;") a0 Z = true := hw _ (List.mem_of_getElem? (i := 100) rfl)
theorem w101 (hw : HW a0 Z) : Jvm.Cond.before (Jvm.Cond.initialized "jdk/internal/util/Preconditions") a0 Z = true := hw _ (List.mem_of_getElem? (i := 101) rfl)
theorem w102 (hw : HW a0 Z) : Jvm.Cond.before (Jvm.Cond.methodLink "java/lang/String" (1059 : Nat) ({ cls := "jdk/internal/util/Preconditions", name := "checkIndex", desc := "(IILjava/util/function/BiFunction;)I" } : Jvm.MethodName)) a0 Z = true := hw _ (List.mem_of_getElem? (i := 102) rfl)
theorem w103 (hw : HW a0 Z) : Jvm.Cond.before (Jvm.Cond.static ({ cls := "jdk/internal/util/Preconditions", name := "checkIndex", desc := "(IILjava/util/function/BiFunction;)I" } : Jvm.MethodName)) a0 Z = true := hw _ (List.mem_of_getElem? (i := 103) rfl)
theorem w104 (hw : HW a0 Z) : Jvm.Cond.before (Jvm.Cond.code ({ cls := "jdk/internal/util/Preconditions", name := "checkIndex", desc := "(IILjava/util/function/BiFunction;)I" } : Jvm.MethodName) jdk_41_method_11_code (3 : Nat) (Option.some Jvm.ClassFile.FieldType.int)) a0 Z = true := hw _ (List.mem_of_getElem? (i := 104) rfl)
theorem w105 (hw : HW a0 Z) : Jvm.Cond.before (Jvm.Cond.methodLink "com/example/half_message_commit/halfmessagecommit/protocol/Text" (104 : Nat) ({ cls := "java/lang/Character", name := "isSurrogate", desc := "(C)Z" } : Jvm.MethodName)) a0 Z = true := hw _ (List.mem_of_getElem? (i := 105) rfl)
theorem w106 (hw : HW a0 Z) : Jvm.Cond.before (Jvm.Cond.static ({ cls := "java/lang/Character", name := "isSurrogate", desc := "(C)Z" } : Jvm.MethodName)) a0 Z = true := hw _ (List.mem_of_getElem? (i := 106) rfl)
theorem w107 (hw : HW a0 Z) : Jvm.Cond.before (Jvm.Cond.initialized "java/lang/Character") a0 Z = true := hw _ (List.mem_of_getElem? (i := 107) rfl)
theorem w108 (hw : HW a0 Z) : Jvm.Cond.before (Jvm.Cond.code ({ cls := "java/lang/Character", name := "isSurrogate", desc := "(C)Z" } : Jvm.MethodName) jdk_89_method_16_code (1 : Nat) (Option.some Jvm.ClassFile.FieldType.boolean)) a0 Z = true := hw _ (List.mem_of_getElem? (i := 108) rfl)
theorem w109 (hw : HW a0 Z) : Jvm.Cond.before (Jvm.Cond.constant "java/lang/Character" (75 : Nat) (55296 : Int32)) a0 Z = true := hw _ (List.mem_of_getElem? (i := 109) rfl)
theorem w110 (hw : HW a0 Z) : Jvm.Cond.before (Jvm.Cond.methodLink "com/example/half_message_commit/halfmessagecommit/protocol/Text" (85 : Nat) ({ cls := "java/lang/String", name := "codePointAt", desc := "(I)I" } : Jvm.MethodName)) a0 Z = true := hw _ (List.mem_of_getElem? (i := 110) rfl)
theorem w111 (hw : HW a0 Z) : Jvm.Cond.before (Jvm.Cond.declares ({ cls := "java/lang/String", name := "codePointAt", desc := "(I)I" } : Jvm.MethodName)) a0 Z = true := hw _ (List.mem_of_getElem? (i := 111) rfl)
theorem w112 (hw : HW a0 Z) : Jvm.Cond.before (Jvm.Cond.instanceMethod ({ cls := "java/lang/String", name := "codePointAt", desc := "(I)I" } : Jvm.MethodName)) a0 Z = true := hw _ (List.mem_of_getElem? (i := 112) rfl)
theorem w113 (hw : HW a0 Z) : Jvm.Cond.before (Jvm.Cond.selects "java/lang/String" ({ cls := "java/lang/String", name := "codePointAt", desc := "(I)I" } : Jvm.MethodName) ({ cls := "java/lang/String", name := "codePointAt", desc := "(I)I" } : Jvm.MethodName)) a0 Z = true := hw _ (List.mem_of_getElem? (i := 113) rfl)
theorem w114 (hw : HW a0 Z) : Jvm.Cond.before (Jvm.Cond.code ({ cls := "java/lang/String", name := "codePointAt", desc := "(I)I" } : Jvm.MethodName) jdk_42_method_57_code (3 : Nat) (Option.some Jvm.ClassFile.FieldType.int)) a0 Z = true := hw _ (List.mem_of_getElem? (i := 114) rfl)
theorem w115 (hw : HW a0 Z) : Jvm.Cond.before (Jvm.Cond.methodLink "java/lang/String" (499 : Nat) ({ cls := "java/lang/String", name := "checkIndex", desc := "(II)V" } : Jvm.MethodName)) a0 Z = true := hw _ (List.mem_of_getElem? (i := 115) rfl)
theorem w116 (hw : HW a0 Z) : Jvm.Cond.before (Jvm.Cond.methodLink "java/lang/String" (502 : Nat) ({ cls := "java/lang/StringUTF16", name := "codePointAt", desc := "([BII)I" } : Jvm.MethodName)) a0 Z = true := hw _ (List.mem_of_getElem? (i := 116) rfl)
theorem w117 (hw : HW a0 Z) : Jvm.Cond.before (Jvm.Cond.static ({ cls := "java/lang/StringUTF16", name := "codePointAt", desc := "([BII)I" } : Jvm.MethodName)) a0 Z = true := hw _ (List.mem_of_getElem? (i := 117) rfl)
theorem w118 (hw : HW a0 Z) : Jvm.Cond.before (Jvm.Cond.code ({ cls := "java/lang/StringUTF16", name := "codePointAt", desc := "([BII)I" } : Jvm.MethodName) jdk_52_method_8_code (3 : Nat) (Option.some Jvm.ClassFile.FieldType.int)) a0 Z = true := hw _ (List.mem_of_getElem? (i := 118) rfl)
theorem w119 (hw : HW a0 Z) : Jvm.Cond.before (Jvm.Cond.methodLink "java/lang/StringUTF16" (88 : Nat) ({ cls := "java/lang/StringUTF16", name := "codePointAt", desc := "([BIIZ)I" } : Jvm.MethodName)) a0 Z = true := hw _ (List.mem_of_getElem? (i := 119) rfl)
theorem w120 (hw : HW a0 Z) : Jvm.Cond.before (Jvm.Cond.static ({ cls := "java/lang/StringUTF16", name := "codePointAt", desc := "([BIIZ)I" } : Jvm.MethodName)) a0 Z = true := hw _ (List.mem_of_getElem? (i := 120) rfl)
theorem w121 (hw : HW a0 Z) : Jvm.Cond.before (Jvm.Cond.code ({ cls := "java/lang/StringUTF16", name := "codePointAt", desc := "([BIIZ)I" } : Jvm.MethodName) jdk_52_method_7_code (6 : Nat) (Option.some Jvm.ClassFile.FieldType.int)) a0 Z = true := hw _ (List.mem_of_getElem? (i := 121) rfl)
theorem w122 (hw : HW a0 Z) : Jvm.Cond.before (Jvm.Cond.methodLink "java/lang/StringUTF16" (75 : Nat) ({ cls := "java/lang/Character", name := "isHighSurrogate", desc := "(C)Z" } : Jvm.MethodName)) a0 Z = true := hw _ (List.mem_of_getElem? (i := 122) rfl)
theorem w123 (hw : HW a0 Z) : Jvm.Cond.before (Jvm.Cond.static ({ cls := "java/lang/Character", name := "isHighSurrogate", desc := "(C)Z" } : Jvm.MethodName)) a0 Z = true := hw _ (List.mem_of_getElem? (i := 123) rfl)
theorem w124 (hw : HW a0 Z) : Jvm.Cond.before (Jvm.Cond.code ({ cls := "java/lang/Character", name := "isHighSurrogate", desc := "(C)Z" } : Jvm.MethodName) jdk_89_method_14_code (1 : Nat) (Option.some Jvm.ClassFile.FieldType.boolean)) a0 Z = true := hw _ (List.mem_of_getElem? (i := 124) rfl)
theorem w125 (hw : HW a0 Z) : Jvm.Cond.before (Jvm.Cond.methodLink "com/example/half_message_commit/halfmessagecommit/protocol/Text" (88 : Nat) ({ cls := "java/lang/Character", name := "charCount", desc := "(I)I" } : Jvm.MethodName)) a0 Z = true := hw _ (List.mem_of_getElem? (i := 125) rfl)
theorem w126 (hw : HW a0 Z) : Jvm.Cond.before (Jvm.Cond.static ({ cls := "java/lang/Character", name := "charCount", desc := "(I)I" } : Jvm.MethodName)) a0 Z = true := hw _ (List.mem_of_getElem? (i := 126) rfl)
theorem w127 (hw : HW a0 Z) : Jvm.Cond.before (Jvm.Cond.code ({ cls := "java/lang/Character", name := "charCount", desc := "(I)I" } : Jvm.MethodName) jdk_89_method_18_code (1 : Nat) (Option.some Jvm.ClassFile.FieldType.int)) a0 Z = true := hw _ (List.mem_of_getElem? (i := 127) rfl)
theorem w128 (hw : HW a0 Z) : Jvm.Cond.before (Jvm.Cond.constant "java/lang/Character" (73 : Nat) (65536 : Int32)) a0 Z = true := hw _ (List.mem_of_getElem? (i := 128) rfl)
theorem w129 (hw : HW a0 Z) : Jvm.Cond.before (Jvm.Cond.constant "com/example/half_message_commit/halfmessagecommit/protocol/Text" (95 : Nat) (65536 : Int32)) a0 Z = true := hw _ (List.mem_of_getElem? (i := 129) rfl)
theorem w130 (hw : HW a0 Z) : Jvm.Cond.before (Jvm.Cond.constantLong "com/example/half_message_commit/halfmessagecommit/protocol/Text" (96 : Nat) (3 : Int64)) a0 Z = true := hw _ (List.mem_of_getElem? (i := 130) rfl)
theorem w131 (hw : HW a0 Z) : Jvm.Cond.before (Jvm.Cond.constantLong "com/example/half_message_commit/halfmessagecommit/protocol/Text" (93 : Nat) (2 : Int64)) a0 Z = true := hw _ (List.mem_of_getElem? (i := 131) rfl)
theorem w132 (hw : HW a0 Z) : Jvm.Cond.before (Jvm.Cond.stringLink "com/example/half_message_commit/halfmessagecommit/protocol/TextUtf8LengthPinLaw" (36 : Nat) "") a0 Z = true := hw _ (List.mem_of_getElem? (i := 132) rfl)
theorem w133 (hw : HW a0 Z) : Jvm.Cond.before (Jvm.Cond.constant "com/example/half_message_commit/halfmessagecommit/protocol/TextUtf8LengthPinLaw" (10 : Nat) (65536 : Int32)) a0 Z = true := hw _ (List.mem_of_getElem? (i := 133) rfl)
theorem w134 (hw : HW a0 Z) : Jvm.Cond.before (Jvm.Cond.constant "com/example/half_message_commit/halfmessagecommit/protocol/TextUtf8LengthPinLaw" (11 : Nat) (1048576 : Int32)) a0 Z = true := hw _ (List.mem_of_getElem? (i := 134) rfl)
theorem w135 (hw : HW a0 Z) : Jvm.Cond.before (Jvm.Cond.constant "com/example/half_message_commit/halfmessagecommit/protocol/TextUtf8LengthPinLaw" (18 : Nat) (56320 : Int32)) a0 Z = true := hw _ (List.mem_of_getElem? (i := 135) rfl)
theorem w136 (hw : HW a0 Z) : Jvm.Cond.before (Jvm.Cond.constant "java/lang/Character" (77 : Nat) (57344 : Int32)) a0 Z = true := hw _ (List.mem_of_getElem? (i := 136) rfl)
theorem w137 (hw : HW a0 Z) : Jvm.Cond.before (Jvm.Cond.constant "java/lang/Character" (76 : Nat) (56320 : Int32)) a0 Z = true := hw _ (List.mem_of_getElem? (i := 137) rfl)
theorem w138 (hw : HW a0 Z) : Jvm.Cond.before (Jvm.Cond.methodLink "java/lang/StringUTF16" (81 : Nat) ({ cls := "java/lang/Character", name := "isLowSurrogate", desc := "(C)Z" } : Jvm.MethodName)) a0 Z = true := hw _ (List.mem_of_getElem? (i := 138) rfl)
theorem w139 (hw : HW a0 Z) : Jvm.Cond.before (Jvm.Cond.static ({ cls := "java/lang/Character", name := "isLowSurrogate", desc := "(C)Z" } : Jvm.MethodName)) a0 Z = true := hw _ (List.mem_of_getElem? (i := 139) rfl)
theorem w140 (hw : HW a0 Z) : Jvm.Cond.before (Jvm.Cond.code ({ cls := "java/lang/Character", name := "isLowSurrogate", desc := "(C)Z" } : Jvm.MethodName) jdk_89_method_15_code (1 : Nat) (Option.some Jvm.ClassFile.FieldType.boolean)) a0 Z = true := hw _ (List.mem_of_getElem? (i := 140) rfl)
theorem w141 (hw : HW a0 Z) : Jvm.Cond.before (Jvm.Cond.methodLink "java/lang/StringUTF16" (84 : Nat) ({ cls := "java/lang/Character", name := "toCodePoint", desc := "(CC)I" } : Jvm.MethodName)) a0 Z = true := hw _ (List.mem_of_getElem? (i := 141) rfl)
theorem w142 (hw : HW a0 Z) : Jvm.Cond.before (Jvm.Cond.static ({ cls := "java/lang/Character", name := "toCodePoint", desc := "(CC)I" } : Jvm.MethodName)) a0 Z = true := hw _ (List.mem_of_getElem? (i := 142) rfl)
theorem w143 (hw : HW a0 Z) : Jvm.Cond.before (Jvm.Cond.code ({ cls := "java/lang/Character", name := "toCodePoint", desc := "(CC)I" } : Jvm.MethodName) jdk_89_method_19_code (2 : Nat) (Option.some Jvm.ClassFile.FieldType.int)) a0 Z = true := hw _ (List.mem_of_getElem? (i := 143) rfl)
theorem w144 (hw : HW a0 Z) : Jvm.Cond.before (Jvm.Cond.constant "java/lang/Character" (85 : Nat) (-56613888 : Int32)) a0 Z = true := hw _ (List.mem_of_getElem? (i := 144) rfl)
theorem w145 (hw : HW a0 Z) : Jvm.Cond.before (Jvm.Cond.constantLong "com/example/half_message_commit/halfmessagecommit/protocol/Text" (98 : Nat) (4 : Int64)) a0 Z = true := hw _ (List.mem_of_getElem? (i := 145) rfl)
theorem w146 (hw : HW a0 Z) : Jvm.Cond.before (Jvm.Cond.methodLink "java/lang/String" (495 : Nat) ({ cls := "java/lang/StringLatin1", name := "charAt", desc := "([BI)C" } : Jvm.MethodName)) a0 Z = true := hw _ (List.mem_of_getElem? (i := 146) rfl)
theorem w147 (hw : HW a0 Z) : Jvm.Cond.before (Jvm.Cond.static ({ cls := "java/lang/StringLatin1", name := "charAt", desc := "([BI)C" } : Jvm.MethodName)) a0 Z = true := hw _ (List.mem_of_getElem? (i := 147) rfl)
theorem w148 (hw : HW a0 Z) : Jvm.Cond.before (Jvm.Cond.initialized "java/lang/StringLatin1") a0 Z = true := hw _ (List.mem_of_getElem? (i := 148) rfl)
theorem w149 (hw : HW a0 Z) : Jvm.Cond.before (Jvm.Cond.code ({ cls := "java/lang/StringLatin1", name := "charAt", desc := "([BI)C" } : Jvm.MethodName) jdk_43_method_2_code (2 : Nat) (Option.some Jvm.ClassFile.FieldType.char)) a0 Z = true := hw _ (List.mem_of_getElem? (i := 149) rfl)
theorem w150 (hw : HW a0 Z) : Jvm.Cond.before (Jvm.Cond.methodLink "java/lang/StringLatin1" (9 : Nat) ({ cls := "java/lang/String", name := "checkIndex", desc := "(II)V" } : Jvm.MethodName)) a0 Z = true := hw _ (List.mem_of_getElem? (i := 150) rfl)
theorem w151 (hw : HW a0 Z) : Jvm.Cond.before (Jvm.Cond.constant "com/example/half_message_commit/halfmessagecommit/protocol/TextUtf8LengthPinLaw" (9 : Nat) (57343 : Int32)) a0 Z = true := hw _ (List.mem_of_getElem? (i := 151) rfl)
end Wds
theorem strAtoms {a0 : Array Value} {Z : State} (hw : HW a0 Z) : ∀ a ∈ Bundle.stringAtoms, a.before a0 Z = true := by
  intro d hd
  simp only [Bundle.stringAtoms, List.mem_cons, List.not_mem_nil, or_false] at hd
  rcases hd with rfl | rfl | rfl | rfl | rfl | rfl | rfl
  · exact hw _ (List.mem_of_getElem? (i := 12) rfl)
  · exact hw _ (List.mem_of_getElem? (i := 11) rfl)
  · exact hw _ (List.mem_of_getElem? (i := 28) rfl)
  · exact hw _ (List.mem_of_getElem? (i := 57) rfl)
  · exact hw _ (List.mem_of_getElem? (i := 55) rfl)
  · exact hw _ (List.mem_of_getElem? (i := 59) rfl)
  · exact hw _ (List.mem_of_getElem? (i := 60) rfl)
theorem hEW {a0 : Array Value} {Z : State} (hw : HW a0 Z) : ∃ a0, EW Z a0 consts_1 := ⟨a0, EW.cons (hw _ (List.mem_of_getElem? (i := 58) rfl)) (by decide) (EW.cons (hw _ (List.mem_of_getElem? (i := 132) rfl)) (by decide) (EW.nil))⟩
theorem d1_0 : decode method_3_code 0 = .ok (.iload_n 2, 1) := by decide +kernel
theorem d1_1 : decode method_3_code 1 = .ok (.iconst 3, 1) := by decide +kernel
theorem d1_2 : decode method_3_code 2 = .ok (.iand, 1) := by decide +kernel
theorem d1_3 : decode method_3_code 3 = .ok (.iconst 3, 1) := by decide +kernel
theorem d1_4 : decode method_3_code 4 = .ok (.if_icmp .ne 42, 3) := by decide +kernel
theorem d1_7 : decode method_3_code 7 = .ok (.iload_n 2, 1) := by decide +kernel
theorem d1_8 : decode method_3_code 8 = .ok (.iconst 3, 1) := by decide +kernel
theorem d1_9 : decode method_3_code 9 = .ok (.invokestatic 12, 3) := by decide +kernel
theorem d1_12 : decode method_3_code 12 = .ok (.ldc 10, 2) := by decide +kernel
theorem d1_14 : decode method_3_code 14 = .ok (.isub, 1) := by decide +kernel
theorem d1_15 : decode method_3_code 15 = .ok (.istore 4, 2) := by decide +kernel
theorem d1_17 : decode method_3_code 17 = .ok (.aload_n 0, 1) := by decide +kernel
theorem d1_18 : decode method_3_code 18 = .ok (.iload_n 1, 1) := by decide +kernel
theorem d1_19 : decode method_3_code 19 = .ok (.ldc 8, 2) := by decide +kernel
theorem d1_21 : decode method_3_code 21 = .ok (.iload 4, 2) := by decide +kernel
theorem d1_23 : decode method_3_code 23 = .ok (.bipush 10, 2) := by decide +kernel
theorem d1_25 : decode method_3_code 25 = .ok (.iushr, 1) := by decide +kernel
theorem d1_26 : decode method_3_code 26 = .ok (.iadd, 1) := by decide +kernel
theorem d1_27 : decode method_3_code 27 = .ok (.i2c, 1) := by decide +kernel
theorem d1_28 : decode method_3_code 28 = .ok (.castore, 1) := by decide +kernel
theorem d1_29 : decode method_3_code 29 = .ok (.aload_n 0, 1) := by decide +kernel
theorem d1_30 : decode method_3_code 30 = .ok (.iload_n 1, 1) := by decide +kernel
theorem d1_31 : decode method_3_code 31 = .ok (.iconst 1, 1) := by decide +kernel
theorem d1_32 : decode method_3_code 32 = .ok (.iadd, 1) := by decide +kernel
theorem d1_33 : decode method_3_code 33 = .ok (.ldc 18, 2) := by decide +kernel
theorem d1_35 : decode method_3_code 35 = .ok (.iload 4, 2) := by decide +kernel
theorem d1_37 : decode method_3_code 37 = .ok (.sipush 1023, 3) := by decide +kernel
theorem d1_40 : decode method_3_code 40 = .ok (.iand, 1) := by decide +kernel
theorem d1_41 : decode method_3_code 41 = .ok (.iadd, 1) := by decide +kernel
theorem d1_42 : decode method_3_code 42 = .ok (.i2c, 1) := by decide +kernel
theorem d1_43 : decode method_3_code 43 = .ok (.castore, 1) := by decide +kernel
theorem d1_44 : decode method_3_code 44 = .ok (.iconst 4, 1) := by decide +kernel
theorem d1_45 : decode method_3_code 45 = .ok (.ireturn, 1) := by decide +kernel
theorem d1_46 : decode method_3_code 46 = .ok (.iload_n 2, 1) := by decide +kernel
theorem d1_47 : decode method_3_code 47 = .ok (.iconst 3, 1) := by decide +kernel
theorem d1_48 : decode method_3_code 48 = .ok (.iand, 1) := by decide +kernel
theorem d1_49 : decode method_3_code 49 = .ok (.istore 4, 2) := by decide +kernel
theorem d1_51 : decode method_3_code 51 = .ok (.iload_n 3, 1) := by decide +kernel
theorem d1_52 : decode method_3_code 52 = .ok (.iconst 3, 1) := by decide +kernel
theorem d1_53 : decode method_3_code 53 = .ok (.iand, 1) := by decide +kernel
theorem d1_54 : decode method_3_code 54 = .ok (.iconst 3, 1) := by decide +kernel
theorem d1_55 : decode method_3_code 55 = .ok (.irem, 1) := by decide +kernel
theorem d1_56 : decode method_3_code 56 = .ok (.istore 5, 2) := by decide +kernel
theorem d1_58 : decode method_3_code 58 = .ok (.aload_n 0, 1) := by decide +kernel
theorem d1_59 : decode method_3_code 59 = .ok (.iload_n 1, 1) := by decide +kernel
theorem d1_60 : decode method_3_code 60 = .ok (.iload_n 2, 1) := by decide +kernel
theorem d1_61 : decode method_3_code 61 = .ok (.iload 4, 2) := by decide +kernel
theorem d1_63 : decode method_3_code 63 = .ok (.invokestatic 12, 3) := by decide +kernel
theorem d1_66 : decode method_3_code 66 = .ok (.i2c, 1) := by decide +kernel
theorem d1_67 : decode method_3_code 67 = .ok (.castore, 1) := by decide +kernel
theorem d1_68 : decode method_3_code 68 = .ok (.aload_n 0, 1) := by decide +kernel
theorem d1_69 : decode method_3_code 69 = .ok (.iload_n 1, 1) := by decide +kernel
theorem d1_70 : decode method_3_code 70 = .ok (.iconst 1, 1) := by decide +kernel
theorem d1_71 : decode method_3_code 71 = .ok (.iadd, 1) := by decide +kernel
theorem d1_72 : decode method_3_code 72 = .ok (.iload_n 3, 1) := by decide +kernel
theorem d1_73 : decode method_3_code 73 = .ok (.iload 5, 2) := by decide +kernel
theorem d1_75 : decode method_3_code 75 = .ok (.invokestatic 12, 3) := by decide +kernel
theorem d1_78 : decode method_3_code 78 = .ok (.i2c, 1) := by decide +kernel
theorem d1_79 : decode method_3_code 79 = .ok (.castore, 1) := by decide +kernel
theorem d1_80 : decode method_3_code 80 = .ok (.iload 4, 2) := by decide +kernel
theorem d1_82 : decode method_3_code 82 = .ok (.iload 5, 2) := by decide +kernel
theorem d1_84 : decode method_3_code 84 = .ok (.iadd, 1) := by decide +kernel
theorem d1_85 : decode method_3_code 85 = .ok (.iconst 2, 1) := by decide +kernel
theorem d1_86 : decode method_3_code 86 = .ok (.iadd, 1) := by decide +kernel
theorem d1_87 : decode method_3_code 87 = .ok (.ireturn, 1) := by decide +kernel
theorem d2_0 : decode method_2_code 0 = .ok (.iload_n 0, 1) := by decide +kernel
theorem d2_1 : decode method_2_code 1 = .ok (.iconst 2, 1) := by decide +kernel
theorem d2_2 : decode method_2_code 2 = .ok (.iushr, 1) := by decide +kernel
theorem d2_3 : decode method_2_code 3 = .ok (.istore_n 2, 1) := by decide +kernel
theorem d2_4 : decode method_2_code 4 = .ok (.iload_n 1, 1) := by decide +kernel
theorem d2_5 : decode method_2_code 5 = .ok (.ifCond .ne 8, 3) := by decide +kernel
theorem d2_8 : decode method_2_code 8 = .ok (.iload_n 2, 1) := by decide +kernel
theorem d2_9 : decode method_2_code 9 = .ok (.bipush 127, 2) := by decide +kernel
theorem d2_11 : decode method_2_code 11 = .ok (.iand, 1) := by decide +kernel
theorem d2_12 : decode method_2_code 12 = .ok (.ireturn, 1) := by decide +kernel
theorem d2_13 : decode method_2_code 13 = .ok (.iload_n 1, 1) := by decide +kernel
theorem d2_14 : decode method_2_code 14 = .ok (.iconst 1, 1) := by decide +kernel
theorem d2_15 : decode method_2_code 15 = .ok (.if_icmp .ne 13, 3) := by decide +kernel
theorem d2_18 : decode method_2_code 18 = .ok (.sipush 128, 3) := by decide +kernel
theorem d2_21 : decode method_2_code 21 = .ok (.iload_n 2, 1) := by decide +kernel
theorem d2_22 : decode method_2_code 22 = .ok (.sipush 1920, 3) := by decide +kernel
theorem d2_25 : decode method_2_code 25 = .ok (.irem, 1) := by decide +kernel
theorem d2_26 : decode method_2_code 26 = .ok (.iadd, 1) := by decide +kernel
theorem d2_27 : decode method_2_code 27 = .ok (.ireturn, 1) := by decide +kernel
theorem d2_28 : decode method_2_code 28 = .ok (.iload_n 1, 1) := by decide +kernel
theorem d2_29 : decode method_2_code 29 = .ok (.iconst 2, 1) := by decide +kernel
theorem d2_30 : decode method_2_code 30 = .ok (.if_icmp .ne 32, 3) := by decide +kernel
theorem d2_33 : decode method_2_code 33 = .ok (.sipush 2048, 3) := by decide +kernel
theorem d2_36 : decode method_2_code 36 = .ok (.iload_n 2, 1) := by decide +kernel
theorem d2_37 : decode method_2_code 37 = .ok (.ldc 7, 2) := by decide +kernel
theorem d2_39 : decode method_2_code 39 = .ok (.irem, 1) := by decide +kernel
theorem d2_40 : decode method_2_code 40 = .ok (.iadd, 1) := by decide +kernel
theorem d2_41 : decode method_2_code 41 = .ok (.istore_n 3, 1) := by decide +kernel
theorem d2_42 : decode method_2_code 42 = .ok (.iload_n 3, 1) := by decide +kernel
theorem d2_43 : decode method_2_code 43 = .ok (.ldc 8, 2) := by decide +kernel
theorem d2_45 : decode method_2_code 45 = .ok (.if_icmp .lt 15, 3) := by decide +kernel
theorem d2_48 : decode method_2_code 48 = .ok (.iload_n 3, 1) := by decide +kernel
theorem d2_49 : decode method_2_code 49 = .ok (.ldc 9, 2) := by decide +kernel
theorem d2_51 : decode method_2_code 51 = .ok (.if_icmp .gt 9, 3) := by decide +kernel
theorem d2_54 : decode method_2_code 54 = .ok (.iload_n 3, 1) := by decide +kernel
theorem d2_55 : decode method_2_code 55 = .ok (.sipush 2048, 3) := by decide +kernel
theorem d2_58 : decode method_2_code 58 = .ok (.iadd, 1) := by decide +kernel
theorem d2_59 : decode method_2_code 59 = .ok (.istore_n 3, 1) := by decide +kernel
theorem d2_60 : decode method_2_code 60 = .ok (.iload_n 3, 1) := by decide +kernel
theorem d2_61 : decode method_2_code 61 = .ok (.ireturn, 1) := by decide +kernel
theorem d2_62 : decode method_2_code 62 = .ok (.ldc 10, 2) := by decide +kernel
theorem d2_64 : decode method_2_code 64 = .ok (.iload_n 2, 1) := by decide +kernel
theorem d2_65 : decode method_2_code 65 = .ok (.ldc 11, 2) := by decide +kernel
theorem d2_67 : decode method_2_code 67 = .ok (.irem, 1) := by decide +kernel
theorem d2_68 : decode method_2_code 68 = .ok (.iadd, 1) := by decide +kernel
theorem d2_69 : decode method_2_code 69 = .ok (.ireturn, 1) := by decide +kernel
theorem d3_0 : decode jdk_42_method_3_code 0 = .ok (.aload_n 0, 1) := by decide +kernel
theorem d3_1 : decode jdk_42_method_3_code 1 = .ok (.aload_n 1, 1) := by decide +kernel
theorem d3_2 : decode jdk_42_method_3_code 2 = .ok (.iconst 0, 1) := by decide +kernel
theorem d3_3 : decode jdk_42_method_3_code 3 = .ok (.aload_n 1, 1) := by decide +kernel
theorem d3_4 : decode jdk_42_method_3_code 4 = .ok (.arraylength, 1) := by decide +kernel
theorem d3_5 : decode jdk_42_method_3_code 5 = .ok (.aconst_null, 1) := by decide +kernel
theorem d3_6 : decode jdk_42_method_3_code 6 = .ok (.invokespecial 27, 3) := by decide +kernel
theorem d3_9 : decode jdk_42_method_3_code 9 = .ok (.return_, 1) := by decide +kernel
theorem d4_0 : decode jdk_42_method_149_code 0 = .ok (.aload_n 0, 1) := by decide +kernel
theorem d4_1 : decode jdk_42_method_149_code 1 = .ok (.invokespecial 1, 3) := by decide +kernel
theorem d4_4 : decode jdk_42_method_149_code 4 = .ok (.iload_n 3, 1) := by decide +kernel
theorem d4_5 : decode jdk_42_method_149_code 5 = .ok (.ifCond .ne 22, 3) := by decide +kernel
theorem d4_27 : decode jdk_42_method_149_code 27 = .ok (.getstatic 38, 3) := by decide +kernel
theorem d4_30 : decode jdk_42_method_149_code 30 = .ok (.ifCond .eq 28, 3) := by decide +kernel
theorem d4_33 : decode jdk_42_method_149_code 33 = .ok (.aload_n 1, 1) := by decide +kernel
theorem d4_34 : decode jdk_42_method_149_code 34 = .ok (.iload_n 2, 1) := by decide +kernel
theorem d4_35 : decode jdk_42_method_149_code 35 = .ok (.iload_n 3, 1) := by decide +kernel
theorem d4_36 : decode jdk_42_method_149_code 36 = .ok (.invokestatic 177, 3) := by decide +kernel
theorem d4_39 : decode jdk_42_method_149_code 39 = .ok (.astore 5, 2) := by decide +kernel
theorem d4_41 : decode jdk_42_method_149_code 41 = .ok (.aload_n 0, 1) := by decide +kernel
theorem d4_42 : decode jdk_42_method_149_code 42 = .ok (.aload 5, 2) := by decide +kernel
theorem d4_44 : decode jdk_42_method_149_code 44 = .ok (.iload_n 3, 1) := by decide +kernel
theorem d4_45 : decode jdk_42_method_149_code 45 = .ok (.invokestatic 47, 3) := by decide +kernel
theorem d4_48 : decode jdk_42_method_149_code 48 = .ok (.putfield 15, 3) := by decide +kernel
theorem d4_51 : decode jdk_42_method_149_code 51 = .ok (.aload_n 0, 1) := by decide +kernel
theorem d4_52 : decode jdk_42_method_149_code 52 = .ok (.aload 5, 2) := by decide +kernel
theorem d4_54 : decode jdk_42_method_149_code 54 = .ok (.putfield 9, 3) := by decide +kernel
theorem d4_57 : decode jdk_42_method_149_code 57 = .ok (.return_, 1) := by decide +kernel
theorem d6_0 : decode jdk_52_method_16_code 0 = .ok (.iload_n 2, 1) := by decide +kernel
theorem d6_1 : decode jdk_52_method_16_code 1 = .ok (.newarray .byte, 2) := by decide +kernel
theorem d6_3 : decode jdk_52_method_16_code 3 = .ok (.astore_n 3, 1) := by decide +kernel
theorem d6_4 : decode jdk_52_method_16_code 4 = .ok (.aload_n 0, 1) := by decide +kernel
theorem d6_5 : decode jdk_52_method_16_code 5 = .ok (.iload_n 1, 1) := by decide +kernel
theorem d6_6 : decode jdk_52_method_16_code 6 = .ok (.aload_n 3, 1) := by decide +kernel
theorem d6_7 : decode jdk_52_method_16_code 7 = .ok (.iconst 0, 1) := by decide +kernel
theorem d6_8 : decode jdk_52_method_16_code 8 = .ok (.iload_n 2, 1) := by decide +kernel
theorem d6_9 : decode jdk_52_method_16_code 9 = .ok (.invokestatic 115, 3) := by decide +kernel
theorem d6_12 : decode jdk_52_method_16_code 12 = .ok (.istore 4, 2) := by decide +kernel
theorem d6_14 : decode jdk_52_method_16_code 14 = .ok (.iload 4, 2) := by decide +kernel
theorem d6_16 : decode jdk_52_method_16_code 16 = .ok (.iload_n 2, 1) := by decide +kernel
theorem d6_17 : decode jdk_52_method_16_code 17 = .ok (.if_icmp .eq 40, 3) := by decide +kernel
theorem d6_20 : decode jdk_52_method_16_code 20 = .ok (.aload_n 0, 1) := by decide +kernel
theorem d6_21 : decode jdk_52_method_16_code 21 = .ok (.iload_n 1, 1) := by decide +kernel
theorem d6_22 : decode jdk_52_method_16_code 22 = .ok (.iload_n 2, 1) := by decide +kernel
theorem d6_23 : decode jdk_52_method_16_code 23 = .ok (.invokestatic 119, 3) := by decide +kernel
theorem d6_26 : decode jdk_52_method_16_code 26 = .ok (.astore 5, 2) := by decide +kernel
theorem d6_28 : decode jdk_52_method_16_code 28 = .ok (.aload 5, 2) := by decide +kernel
theorem d6_30 : decode jdk_52_method_16_code 30 = .ok (.iload 4, 2) := by decide +kernel
theorem d6_32 : decode jdk_52_method_16_code 32 = .ok (.invokestatic 71, 3) := by decide +kernel
theorem d6_35 : decode jdk_52_method_16_code 35 = .ok (.sipush 255, 3) := by decide +kernel
theorem d6_38 : decode jdk_52_method_16_code 38 = .ok (.if_icmp .gt 16, 3) := by decide +kernel
theorem d6_54 : decode jdk_52_method_16_code 54 = .ok (.aload 5, 2) := by decide +kernel
theorem d6_56 : decode jdk_52_method_16_code 56 = .ok (.areturn, 1) := by decide +kernel
theorem d6_57 : decode jdk_52_method_16_code 57 = .ok (.aload_n 3, 1) := by decide +kernel
theorem d6_58 : decode jdk_52_method_16_code 58 = .ok (.areturn, 1) := by decide +kernel
theorem d7_0 : decode jdk_52_method_21_code 0 = .ok (.iconst 0, 1) := by decide +kernel
theorem d7_1 : decode jdk_52_method_21_code 1 = .ok (.istore 5, 2) := by decide +kernel
theorem d7_3 : decode jdk_52_method_21_code 3 = .ok (.iload 5, 2) := by decide +kernel
theorem d7_5 : decode jdk_52_method_21_code 5 = .ok (.iload 4, 2) := by decide +kernel
theorem d7_7 : decode jdk_52_method_21_code 7 = .ok (.if_icmp .ge 37, 3) := by decide +kernel
theorem d7_10 : decode jdk_52_method_21_code 10 = .ok (.aload_n 0, 1) := by decide +kernel
theorem d7_11 : decode jdk_52_method_21_code 11 = .ok (.iload_n 1, 1) := by decide +kernel
theorem d7_12 : decode jdk_52_method_21_code 12 = .ok (.caload, 1) := by decide +kernel
theorem d7_13 : decode jdk_52_method_21_code 13 = .ok (.istore 6, 2) := by decide +kernel
theorem d7_15 : decode jdk_52_method_21_code 15 = .ok (.iload 6, 2) := by decide +kernel
theorem d7_17 : decode jdk_52_method_21_code 17 = .ok (.sipush 255, 3) := by decide +kernel
theorem d7_20 : decode jdk_52_method_21_code 20 = .ok (.if_icmp .le 6, 3) := by decide +kernel
theorem d7_23 : decode jdk_52_method_21_code 23 = .ok (.iload 5, 2) := by decide +kernel
theorem d7_25 : decode jdk_52_method_21_code 25 = .ok (.ireturn, 1) := by decide +kernel
theorem d7_26 : decode jdk_52_method_21_code 26 = .ok (.aload_n 2, 1) := by decide +kernel
theorem d7_27 : decode jdk_52_method_21_code 27 = .ok (.iload_n 3, 1) := by decide +kernel
theorem d7_28 : decode jdk_52_method_21_code 28 = .ok (.iload 6, 2) := by decide +kernel
theorem d7_30 : decode jdk_52_method_21_code 30 = .ok (.i2b, 1) := by decide +kernel
theorem d7_31 : decode jdk_52_method_21_code 31 = .ok (.bastore, 1) := by decide +kernel
theorem d7_32 : decode jdk_52_method_21_code 32 = .ok (.iinc 1 1, 3) := by decide +kernel
theorem d7_35 : decode jdk_52_method_21_code 35 = .ok (.iinc 3 1, 3) := by decide +kernel
theorem d7_38 : decode jdk_52_method_21_code 38 = .ok (.iinc 5 1, 3) := by decide +kernel
theorem d7_41 : decode jdk_52_method_21_code 41 = .ok (.goto (-38), 3) := by decide +kernel
theorem d7_44 : decode jdk_52_method_21_code 44 = .ok (.iload 4, 2) := by decide +kernel
theorem d7_46 : decode jdk_52_method_21_code 46 = .ok (.ireturn, 1) := by decide +kernel
theorem d8_0 : decode jdk_52_method_14_code 0 = .ok (.iload_n 2, 1) := by decide +kernel
theorem d8_1 : decode jdk_52_method_14_code 1 = .ok (.invokestatic 107, 3) := by decide +kernel
theorem d8_4 : decode jdk_52_method_14_code 4 = .ok (.astore_n 3, 1) := by decide +kernel
theorem d8_5 : decode jdk_52_method_14_code 5 = .ok (.iconst 0, 1) := by decide +kernel
theorem d8_6 : decode jdk_52_method_14_code 6 = .ok (.istore 4, 2) := by decide +kernel
theorem d8_8 : decode jdk_52_method_14_code 8 = .ok (.iload 4, 2) := by decide +kernel
theorem d8_10 : decode jdk_52_method_14_code 10 = .ok (.iload_n 2, 1) := by decide +kernel
theorem d8_11 : decode jdk_52_method_14_code 11 = .ok (.if_icmp .ge 21, 3) := by decide +kernel
theorem d8_14 : decode jdk_52_method_14_code 14 = .ok (.aload_n 3, 1) := by decide +kernel
theorem d8_15 : decode jdk_52_method_14_code 15 = .ok (.iload 4, 2) := by decide +kernel
theorem d8_17 : decode jdk_52_method_14_code 17 = .ok (.aload_n 0, 1) := by decide +kernel
theorem d8_18 : decode jdk_52_method_14_code 18 = .ok (.iload_n 1, 1) := by decide +kernel
theorem d8_19 : decode jdk_52_method_14_code 19 = .ok (.caload, 1) := by decide +kernel
theorem d8_20 : decode jdk_52_method_14_code 20 = .ok (.invokestatic 111, 3) := by decide +kernel
theorem d8_23 : decode jdk_52_method_14_code 23 = .ok (.iinc 1 1, 3) := by decide +kernel
theorem d8_26 : decode jdk_52_method_14_code 26 = .ok (.iinc 4 1, 3) := by decide +kernel
theorem d8_29 : decode jdk_52_method_14_code 29 = .ok (.goto (-21), 3) := by decide +kernel
theorem d8_32 : decode jdk_52_method_14_code 32 = .ok (.aload_n 3, 1) := by decide +kernel
theorem d8_33 : decode jdk_52_method_14_code 33 = .ok (.areturn, 1) := by decide +kernel
theorem d9_0 : decode jdk_52_method_2_code 0 = .ok (.iload_n 0, 1) := by decide +kernel
theorem d9_1 : decode jdk_52_method_2_code 1 = .ok (.invokestatic 11, 3) := by decide +kernel
theorem d9_4 : decode jdk_52_method_2_code 4 = .ok (.newarray .byte, 2) := by decide +kernel
theorem d9_6 : decode jdk_52_method_2_code 6 = .ok (.areturn, 1) := by decide +kernel
theorem d10_0 : decode jdk_52_method_3_code 0 = .ok (.iload_n 0, 1) := by decide +kernel
theorem d10_1 : decode jdk_52_method_3_code 1 = .ok (.ifCond .ge 11, 3) := by decide +kernel
theorem d10_12 : decode jdk_52_method_3_code 12 = .ok (.iload_n 0, 1) := by decide +kernel
theorem d10_13 : decode jdk_52_method_3_code 13 = .ok (.ldc 20, 2) := by decide +kernel
theorem d10_15 : decode jdk_52_method_3_code 15 = .ok (.if_icmp .lt 40, 3) := by decide +kernel
theorem d10_55 : decode jdk_52_method_3_code 55 = .ok (.iload_n 0, 1) := by decide +kernel
theorem d10_56 : decode jdk_52_method_3_code 56 = .ok (.iconst 1, 1) := by decide +kernel
theorem d10_57 : decode jdk_52_method_3_code 57 = .ok (.ishl, 1) := by decide +kernel
theorem d10_58 : decode jdk_52_method_3_code 58 = .ok (.ireturn, 1) := by decide +kernel
theorem d11_0 : decode jdk_52_method_4_code 0 = .ok (.getstatic 44, 3) := by decide +kernel
theorem d11_3 : decode jdk_52_method_4_code 3 = .ok (.ifCond .ne 25, 3) := by decide +kernel
theorem d11_28 : decode jdk_52_method_4_code 28 = .ok (.iload_n 1, 1) := by decide +kernel
theorem d11_29 : decode jdk_52_method_4_code 29 = .ok (.iconst 1, 1) := by decide +kernel
theorem d11_30 : decode jdk_52_method_4_code 30 = .ok (.ishl, 1) := by decide +kernel
theorem d11_31 : decode jdk_52_method_4_code 31 = .ok (.istore_n 1, 1) := by decide +kernel
theorem d11_32 : decode jdk_52_method_4_code 32 = .ok (.aload_n 0, 1) := by decide +kernel
theorem d11_33 : decode jdk_52_method_4_code 33 = .ok (.iload_n 1, 1) := by decide +kernel
theorem d11_34 : decode jdk_52_method_4_code 34 = .ok (.iinc 1 1, 3) := by decide +kernel
theorem d11_37 : decode jdk_52_method_4_code 37 = .ok (.iload_n 2, 1) := by decide +kernel
theorem d11_38 : decode jdk_52_method_4_code 38 = .ok (.getstatic 59, 3) := by decide +kernel
theorem d11_41 : decode jdk_52_method_4_code 41 = .ok (.ishr, 1) := by decide +kernel
theorem d11_42 : decode jdk_52_method_4_code 42 = .ok (.i2b, 1) := by decide +kernel
theorem d11_43 : decode jdk_52_method_4_code 43 = .ok (.bastore, 1) := by decide +kernel
theorem d11_44 : decode jdk_52_method_4_code 44 = .ok (.aload_n 0, 1) := by decide +kernel
theorem d11_45 : decode jdk_52_method_4_code 45 = .ok (.iload_n 1, 1) := by decide +kernel
theorem d11_46 : decode jdk_52_method_4_code 46 = .ok (.iload_n 2, 1) := by decide +kernel
theorem d11_47 : decode jdk_52_method_4_code 47 = .ok (.getstatic 63, 3) := by decide +kernel
theorem d11_50 : decode jdk_52_method_4_code 50 = .ok (.ishr, 1) := by decide +kernel
theorem d11_51 : decode jdk_52_method_4_code 51 = .ok (.i2b, 1) := by decide +kernel
theorem d11_52 : decode jdk_52_method_4_code 52 = .ok (.bastore, 1) := by decide +kernel
theorem d11_53 : decode jdk_52_method_4_code 53 = .ok (.return_, 1) := by decide +kernel
theorem d12_0 : decode jdk_52_method_5_code 0 = .ok (.getstatic 44, 3) := by decide +kernel
theorem d12_3 : decode jdk_52_method_5_code 3 = .ok (.ifCond .ne 25, 3) := by decide +kernel
theorem d12_28 : decode jdk_52_method_5_code 28 = .ok (.iload_n 1, 1) := by decide +kernel
theorem d12_29 : decode jdk_52_method_5_code 29 = .ok (.iconst 1, 1) := by decide +kernel
theorem d12_30 : decode jdk_52_method_5_code 30 = .ok (.ishl, 1) := by decide +kernel
theorem d12_31 : decode jdk_52_method_5_code 31 = .ok (.istore_n 1, 1) := by decide +kernel
theorem d12_32 : decode jdk_52_method_5_code 32 = .ok (.aload_n 0, 1) := by decide +kernel
theorem d12_33 : decode jdk_52_method_5_code 33 = .ok (.iload_n 1, 1) := by decide +kernel
theorem d12_34 : decode jdk_52_method_5_code 34 = .ok (.iinc 1 1, 3) := by decide +kernel
theorem d12_37 : decode jdk_52_method_5_code 37 = .ok (.baload, 1) := by decide +kernel
theorem d12_38 : decode jdk_52_method_5_code 38 = .ok (.sipush 255, 3) := by decide +kernel
theorem d12_41 : decode jdk_52_method_5_code 41 = .ok (.iand, 1) := by decide +kernel
theorem d12_42 : decode jdk_52_method_5_code 42 = .ok (.getstatic 59, 3) := by decide +kernel
theorem d12_45 : decode jdk_52_method_5_code 45 = .ok (.ishl, 1) := by decide +kernel
theorem d12_46 : decode jdk_52_method_5_code 46 = .ok (.aload_n 0, 1) := by decide +kernel
theorem d12_47 : decode jdk_52_method_5_code 47 = .ok (.iload_n 1, 1) := by decide +kernel
theorem d12_48 : decode jdk_52_method_5_code 48 = .ok (.baload, 1) := by decide +kernel
theorem d12_49 : decode jdk_52_method_5_code 49 = .ok (.sipush 255, 3) := by decide +kernel
theorem d12_52 : decode jdk_52_method_5_code 52 = .ok (.iand, 1) := by decide +kernel
theorem d12_53 : decode jdk_52_method_5_code 53 = .ok (.getstatic 63, 3) := by decide +kernel
theorem d12_56 : decode jdk_52_method_5_code 56 = .ok (.ishl, 1) := by decide +kernel
theorem d12_57 : decode jdk_52_method_5_code 57 = .ok (.ior, 1) := by decide +kernel
theorem d12_58 : decode jdk_52_method_5_code 58 = .ok (.i2c, 1) := by decide +kernel
theorem d12_59 : decode jdk_52_method_5_code 59 = .ok (.ireturn, 1) := by decide +kernel
theorem d13_0 : decode jdk_52_method_15_code 0 = .ok (.iload_n 1, 1) := by decide +kernel
theorem d13_1 : decode jdk_52_method_15_code 1 = .ok (.aload_n 0, 1) := by decide +kernel
theorem d13_2 : decode jdk_52_method_15_code 2 = .ok (.arraylength, 1) := by decide +kernel
theorem d13_3 : decode jdk_52_method_15_code 3 = .ok (.isub, 1) := by decide +kernel
theorem d13_4 : decode jdk_52_method_15_code 4 = .ok (.bipush 31, 2) := by decide +kernel
theorem d13_6 : decode jdk_52_method_15_code 6 = .ok (.iushr, 1) := by decide +kernel
theorem d13_7 : decode jdk_52_method_15_code 7 = .ok (.i2b, 1) := by decide +kernel
theorem d13_8 : decode jdk_52_method_15_code 8 = .ok (.ireturn, 1) := by decide +kernel
theorem d14_0 : decode prog_26_method_5_code 0 = .ok (.lconst 0, 1) := by decide +kernel
theorem d14_1 : decode prog_26_method_5_code 1 = .ok (.lstore_n 2, 1) := by decide +kernel
theorem d14_2 : decode prog_26_method_5_code 2 = .ok (.iconst 0, 1) := by decide +kernel
theorem d14_3 : decode prog_26_method_5_code 3 = .ok (.istore 4, 2) := by decide +kernel
theorem d14_5 : decode prog_26_method_5_code 5 = .ok (.iload 4, 2) := by decide +kernel
theorem d14_7 : decode prog_26_method_5_code 7 = .ok (.aload_n 1, 1) := by decide +kernel
theorem d14_8 : decode prog_26_method_5_code 8 = .ok (.invokevirtual 77, 3) := by decide +kernel
theorem d14_11 : decode prog_26_method_5_code 11 = .ok (.if_icmp .ge 89, 3) := by decide +kernel
theorem d14_14 : decode prog_26_method_5_code 14 = .ok (.aload_n 0, 1) := by decide +kernel
theorem d14_15 : decode prog_26_method_5_code 15 = .ok (.aload_n 1, 1) := by decide +kernel
theorem d14_16 : decode prog_26_method_5_code 16 = .ok (.iload 4, 2) := by decide +kernel
theorem d14_18 : decode prog_26_method_5_code 18 = .ok (.invokestatic 81, 3) := by decide +kernel
theorem d14_21 : decode prog_26_method_5_code 21 = .ok (.aload_n 1, 1) := by decide +kernel
theorem d14_22 : decode prog_26_method_5_code 22 = .ok (.iload 4, 2) := by decide +kernel
theorem d14_24 : decode prog_26_method_5_code 24 = .ok (.invokevirtual 85, 3) := by decide +kernel
theorem d14_27 : decode prog_26_method_5_code 27 = .ok (.istore 5, 2) := by decide +kernel
theorem d14_29 : decode prog_26_method_5_code 29 = .ok (.iload 5, 2) := by decide +kernel
theorem d14_31 : decode prog_26_method_5_code 31 = .ok (.sipush 128, 3) := by decide +kernel
theorem d14_34 : decode prog_26_method_5_code 34 = .ok (.if_icmp .ge 10, 3) := by decide +kernel
theorem d14_37 : decode prog_26_method_5_code 37 = .ok (.lload_n 2, 1) := by decide +kernel
theorem d14_38 : decode prog_26_method_5_code 38 = .ok (.lconst 1, 1) := by decide +kernel
theorem d14_39 : decode prog_26_method_5_code 39 = .ok (.ladd, 1) := by decide +kernel
theorem d14_40 : decode prog_26_method_5_code 40 = .ok (.lstore_n 2, 1) := by decide +kernel
theorem d14_41 : decode prog_26_method_5_code 41 = .ok (.goto 42, 3) := by decide +kernel
theorem d14_44 : decode prog_26_method_5_code 44 = .ok (.iload 5, 2) := by decide +kernel
theorem d14_46 : decode prog_26_method_5_code 46 = .ok (.sipush 2048, 3) := by decide +kernel
theorem d14_49 : decode prog_26_method_5_code 49 = .ok (.if_icmp .ge 12, 3) := by decide +kernel
theorem d14_52 : decode prog_26_method_5_code 52 = .ok (.lload_n 2, 1) := by decide +kernel
theorem d14_53 : decode prog_26_method_5_code 53 = .ok (.ldc2_w 93, 3) := by decide +kernel
theorem d14_56 : decode prog_26_method_5_code 56 = .ok (.ladd, 1) := by decide +kernel
theorem d14_57 : decode prog_26_method_5_code 57 = .ok (.lstore_n 2, 1) := by decide +kernel
theorem d14_58 : decode prog_26_method_5_code 58 = .ok (.goto 25, 3) := by decide +kernel
theorem d14_61 : decode prog_26_method_5_code 61 = .ok (.iload 5, 2) := by decide +kernel
theorem d14_63 : decode prog_26_method_5_code 63 = .ok (.ldc 95, 2) := by decide +kernel
theorem d14_65 : decode prog_26_method_5_code 65 = .ok (.if_icmp .ge 12, 3) := by decide +kernel
theorem d14_68 : decode prog_26_method_5_code 68 = .ok (.lload_n 2, 1) := by decide +kernel
theorem d14_69 : decode prog_26_method_5_code 69 = .ok (.ldc2_w 96, 3) := by decide +kernel
theorem d14_72 : decode prog_26_method_5_code 72 = .ok (.ladd, 1) := by decide +kernel
theorem d14_73 : decode prog_26_method_5_code 73 = .ok (.lstore_n 2, 1) := by decide +kernel
theorem d14_74 : decode prog_26_method_5_code 74 = .ok (.goto 9, 3) := by decide +kernel
theorem d14_77 : decode prog_26_method_5_code 77 = .ok (.lload_n 2, 1) := by decide +kernel
theorem d14_78 : decode prog_26_method_5_code 78 = .ok (.ldc2_w 98, 3) := by decide +kernel
theorem d14_81 : decode prog_26_method_5_code 81 = .ok (.ladd, 1) := by decide +kernel
theorem d14_82 : decode prog_26_method_5_code 82 = .ok (.lstore_n 2, 1) := by decide +kernel
theorem d14_83 : decode prog_26_method_5_code 83 = .ok (.iload 4, 2) := by decide +kernel
theorem d14_85 : decode prog_26_method_5_code 85 = .ok (.aload_n 1, 1) := by decide +kernel
theorem d14_86 : decode prog_26_method_5_code 86 = .ok (.iload 4, 2) := by decide +kernel
theorem d14_88 : decode prog_26_method_5_code 88 = .ok (.invokevirtual 85, 3) := by decide +kernel
theorem d14_91 : decode prog_26_method_5_code 91 = .ok (.invokestatic 88, 3) := by decide +kernel
theorem d14_94 : decode prog_26_method_5_code 94 = .ok (.iadd, 1) := by decide +kernel
theorem d14_95 : decode prog_26_method_5_code 95 = .ok (.istore 4, 2) := by decide +kernel
theorem d14_97 : decode prog_26_method_5_code 97 = .ok (.goto (-92), 3) := by decide +kernel
theorem d14_100 : decode prog_26_method_5_code 100 = .ok (.lload_n 2, 1) := by decide +kernel
theorem d14_101 : decode prog_26_method_5_code 101 = .ok (.lreturn, 1) := by decide +kernel
theorem d15_0 : decode jdk_42_method_54_code 0 = .ok (.aload_n 0, 1) := by decide +kernel
theorem d15_1 : decode jdk_42_method_54_code 1 = .ok (.getfield 9, 3) := by decide +kernel
theorem d15_4 : decode jdk_42_method_54_code 4 = .ok (.arraylength, 1) := by decide +kernel
theorem d15_5 : decode jdk_42_method_54_code 5 = .ok (.aload_n 0, 1) := by decide +kernel
theorem d15_6 : decode jdk_42_method_54_code 6 = .ok (.invokevirtual 335, 3) := by decide +kernel
theorem d15_9 : decode jdk_42_method_54_code 9 = .ok (.ishr, 1) := by decide +kernel
theorem d15_10 : decode jdk_42_method_54_code 10 = .ok (.ireturn, 1) := by decide +kernel
theorem d16_0 : decode jdk_42_method_152_code 0 = .ok (.getstatic 38, 3) := by decide +kernel
theorem d16_3 : decode jdk_42_method_152_code 3 = .ok (.ifCond .eq 10, 3) := by decide +kernel
theorem d16_6 : decode jdk_42_method_152_code 6 = .ok (.aload_n 0, 1) := by decide +kernel
theorem d16_7 : decode jdk_42_method_152_code 7 = .ok (.getfield 15, 3) := by decide +kernel
theorem d16_10 : decode jdk_42_method_152_code 10 = .ok (.goto 4, 3) := by decide +kernel
theorem d16_14 : decode jdk_42_method_152_code 14 = .ok (.ireturn, 1) := by decide +kernel
theorem d17_0 : decode prog_26_method_6_code 0 = .ok (.aload_n 1, 1) := by decide +kernel
theorem d17_1 : decode prog_26_method_6_code 1 = .ok (.iload_n 2, 1) := by decide +kernel
theorem d17_2 : decode prog_26_method_6_code 2 = .ok (.invokevirtual 100, 3) := by decide +kernel
theorem d17_5 : decode prog_26_method_6_code 5 = .ok (.invokestatic 104, 3) := by decide +kernel
theorem d17_8 : decode prog_26_method_6_code 8 = .ok (.ifCond .eq 32, 3) := by decide +kernel
theorem d17_11 : decode prog_26_method_6_code 11 = .ok (.aload_n 1, 1) := by decide +kernel
theorem d17_12 : decode prog_26_method_6_code 12 = .ok (.iload_n 2, 1) := by decide +kernel
theorem d17_13 : decode prog_26_method_6_code 13 = .ok (.invokevirtual 85, 3) := by decide +kernel
theorem d17_16 : decode prog_26_method_6_code 16 = .ok (.invokestatic 88, 3) := by decide +kernel
theorem d17_19 : decode prog_26_method_6_code 19 = .ok (.iconst 1, 1) := by decide +kernel
theorem d17_20 : decode prog_26_method_6_code 20 = .ok (.if_icmp .ne 20, 3) := by decide +kernel
theorem d17_40 : decode prog_26_method_6_code 40 = .ok (.return_, 1) := by decide +kernel
theorem d18_0 : decode jdk_42_method_56_code 0 = .ok (.aload_n 0, 1) := by decide +kernel
theorem d18_1 : decode jdk_42_method_56_code 1 = .ok (.invokevirtual 492, 3) := by decide +kernel
theorem d18_4 : decode jdk_42_method_56_code 4 = .ok (.ifCond .eq 12, 3) := by decide +kernel
theorem d18_7 : decode jdk_42_method_56_code 7 = .ok (.aload_n 0, 1) := by decide +kernel
theorem d18_8 : decode jdk_42_method_56_code 8 = .ok (.getfield 9, 3) := by decide +kernel
theorem d18_11 : decode jdk_42_method_56_code 11 = .ok (.iload_n 1, 1) := by decide +kernel
theorem d18_12 : decode jdk_42_method_56_code 12 = .ok (.invokestatic 495, 3) := by decide +kernel
theorem d18_15 : decode jdk_42_method_56_code 15 = .ok (.ireturn, 1) := by decide +kernel
theorem d18_16 : decode jdk_42_method_56_code 16 = .ok (.aload_n 0, 1) := by decide +kernel
theorem d18_17 : decode jdk_42_method_56_code 17 = .ok (.getfield 9, 3) := by decide +kernel
theorem d18_20 : decode jdk_42_method_56_code 20 = .ok (.iload_n 1, 1) := by decide +kernel
theorem d18_21 : decode jdk_42_method_56_code 21 = .ok (.invokestatic 498, 3) := by decide +kernel
theorem d18_24 : decode jdk_42_method_56_code 24 = .ok (.ireturn, 1) := by decide +kernel
theorem d19_0 : decode jdk_42_method_154_code 0 = .ok (.getstatic 38, 3) := by decide +kernel
theorem d19_3 : decode jdk_42_method_154_code 3 = .ok (.ifCond .eq 14, 3) := by decide +kernel
theorem d19_6 : decode jdk_42_method_154_code 6 = .ok (.aload_n 0, 1) := by decide +kernel
theorem d19_7 : decode jdk_42_method_154_code 7 = .ok (.getfield 15, 3) := by decide +kernel
theorem d19_10 : decode jdk_42_method_154_code 10 = .ok (.ifCond .ne 7, 3) := by decide +kernel
theorem d19_13 : decode jdk_42_method_154_code 13 = .ok (.iconst 1, 1) := by decide +kernel
theorem d19_14 : decode jdk_42_method_154_code 14 = .ok (.goto 4, 3) := by decide +kernel
theorem d19_17 : decode jdk_42_method_154_code 17 = .ok (.iconst 0, 1) := by decide +kernel
theorem d19_18 : decode jdk_42_method_154_code 18 = .ok (.ireturn, 1) := by decide +kernel
theorem d20_0 : decode jdk_52_method_83_code 0 = .ok (.iload_n 1, 1) := by decide +kernel
theorem d20_1 : decode jdk_52_method_83_code 1 = .ok (.aload_n 0, 1) := by decide +kernel
theorem d20_2 : decode jdk_52_method_83_code 2 = .ok (.invokestatic 67, 3) := by decide +kernel
theorem d20_5 : decode jdk_52_method_83_code 5 = .ok (.aload_n 0, 1) := by decide +kernel
theorem d20_6 : decode jdk_52_method_83_code 6 = .ok (.iload_n 1, 1) := by decide +kernel
theorem d20_7 : decode jdk_52_method_83_code 7 = .ok (.invokestatic 71, 3) := by decide +kernel
theorem d20_10 : decode jdk_52_method_83_code 10 = .ok (.ireturn, 1) := by decide +kernel
theorem d21_0 : decode jdk_52_method_91_code 0 = .ok (.iload_n 0, 1) := by decide +kernel
theorem d21_1 : decode jdk_52_method_91_code 1 = .ok (.aload_n 1, 1) := by decide +kernel
theorem d21_2 : decode jdk_52_method_91_code 2 = .ok (.invokestatic 48, 3) := by decide +kernel
theorem d21_5 : decode jdk_52_method_91_code 5 = .ok (.invokestatic 414, 3) := by decide +kernel
theorem d21_8 : decode jdk_52_method_91_code 8 = .ok (.return_, 1) := by decide +kernel
theorem d22_0 : decode jdk_52_method_6_code 0 = .ok (.aload_n 0, 1) := by decide +kernel
theorem d22_1 : decode jdk_52_method_6_code 1 = .ok (.arraylength, 1) := by decide +kernel
theorem d22_2 : decode jdk_52_method_6_code 2 = .ok (.iconst 1, 1) := by decide +kernel
theorem d22_3 : decode jdk_52_method_6_code 3 = .ok (.ishr, 1) := by decide +kernel
theorem d22_4 : decode jdk_52_method_6_code 4 = .ok (.ireturn, 1) := by decide +kernel
theorem d23_0 : decode jdk_42_method_155_code 0 = .ok (.iload_n 0, 1) := by decide +kernel
theorem d23_1 : decode jdk_42_method_155_code 1 = .ok (.iload_n 1, 1) := by decide +kernel
theorem d23_2 : decode jdk_42_method_155_code 2 = .ok (.getstatic 1053, 3) := by decide +kernel
theorem d23_5 : decode jdk_42_method_155_code 5 = .ok (.invokestatic 1059, 3) := by decide +kernel
theorem d23_8 : decode jdk_42_method_155_code 8 = .ok (.pop, 1) := by decide +kernel
theorem d23_9 : decode jdk_42_method_155_code 9 = .ok (.return_, 1) := by decide +kernel
theorem d24_0 : decode jdk_41_method_11_code 0 = .ok (.iload_n 0, 1) := by decide +kernel
theorem d24_1 : decode jdk_41_method_11_code 1 = .ok (.ifCond .lt 8, 3) := by decide +kernel
theorem d24_4 : decode jdk_41_method_11_code 4 = .ok (.iload_n 0, 1) := by decide +kernel
theorem d24_5 : decode jdk_41_method_11_code 5 = .ok (.iload_n 1, 1) := by decide +kernel
theorem d24_6 : decode jdk_41_method_11_code 6 = .ok (.if_icmp .lt 10, 3) := by decide +kernel
theorem d24_16 : decode jdk_41_method_11_code 16 = .ok (.iload_n 0, 1) := by decide +kernel
theorem d24_17 : decode jdk_41_method_11_code 17 = .ok (.ireturn, 1) := by decide +kernel
theorem d25_0 : decode jdk_89_method_16_code 0 = .ok (.iload_n 0, 1) := by decide +kernel
theorem d25_1 : decode jdk_89_method_16_code 1 = .ok (.ldc 75, 2) := by decide +kernel
theorem d25_3 : decode jdk_89_method_16_code 3 = .ok (.if_icmp .lt 13, 3) := by decide +kernel
theorem d25_6 : decode jdk_89_method_16_code 6 = .ok (.iload_n 0, 1) := by decide +kernel
theorem d25_7 : decode jdk_89_method_16_code 7 = .ok (.ldc 77, 2) := by decide +kernel
theorem d25_9 : decode jdk_89_method_16_code 9 = .ok (.if_icmp .ge 7, 3) := by decide +kernel
theorem d25_12 : decode jdk_89_method_16_code 12 = .ok (.iconst 1, 1) := by decide +kernel
theorem d25_13 : decode jdk_89_method_16_code 13 = .ok (.goto 4, 3) := by decide +kernel
theorem d25_16 : decode jdk_89_method_16_code 16 = .ok (.iconst 0, 1) := by decide +kernel
theorem d25_17 : decode jdk_89_method_16_code 17 = .ok (.ireturn, 1) := by decide +kernel
theorem d26_0 : decode jdk_42_method_57_code 0 = .ok (.aload_n 0, 1) := by decide +kernel
theorem d26_1 : decode jdk_42_method_57_code 1 = .ok (.invokevirtual 492, 3) := by decide +kernel
theorem d26_4 : decode jdk_42_method_57_code 4 = .ok (.ifCond .eq 23, 3) := by decide +kernel
theorem d26_7 : decode jdk_42_method_57_code 7 = .ok (.iload_n 1, 1) := by decide +kernel
theorem d26_8 : decode jdk_42_method_57_code 8 = .ok (.aload_n 0, 1) := by decide +kernel
theorem d26_9 : decode jdk_42_method_57_code 9 = .ok (.getfield 9, 3) := by decide +kernel
theorem d26_12 : decode jdk_42_method_57_code 12 = .ok (.arraylength, 1) := by decide +kernel
theorem d26_13 : decode jdk_42_method_57_code 13 = .ok (.invokestatic 499, 3) := by decide +kernel
theorem d26_16 : decode jdk_42_method_57_code 16 = .ok (.aload_n 0, 1) := by decide +kernel
theorem d26_17 : decode jdk_42_method_57_code 17 = .ok (.getfield 9, 3) := by decide +kernel
theorem d26_20 : decode jdk_42_method_57_code 20 = .ok (.iload_n 1, 1) := by decide +kernel
theorem d26_21 : decode jdk_42_method_57_code 21 = .ok (.baload, 1) := by decide +kernel
theorem d26_22 : decode jdk_42_method_57_code 22 = .ok (.sipush 255, 3) := by decide +kernel
theorem d26_25 : decode jdk_42_method_57_code 25 = .ok (.iand, 1) := by decide +kernel
theorem d26_26 : decode jdk_42_method_57_code 26 = .ok (.ireturn, 1) := by decide +kernel
theorem d26_27 : decode jdk_42_method_57_code 27 = .ok (.aload_n 0, 1) := by decide +kernel
theorem d26_28 : decode jdk_42_method_57_code 28 = .ok (.getfield 9, 3) := by decide +kernel
theorem d26_31 : decode jdk_42_method_57_code 31 = .ok (.arraylength, 1) := by decide +kernel
theorem d26_32 : decode jdk_42_method_57_code 32 = .ok (.iconst 1, 1) := by decide +kernel
theorem d26_33 : decode jdk_42_method_57_code 33 = .ok (.ishr, 1) := by decide +kernel
theorem d26_34 : decode jdk_42_method_57_code 34 = .ok (.istore_n 2, 1) := by decide +kernel
theorem d26_35 : decode jdk_42_method_57_code 35 = .ok (.iload_n 1, 1) := by decide +kernel
theorem d26_36 : decode jdk_42_method_57_code 36 = .ok (.iload_n 2, 1) := by decide +kernel
theorem d26_37 : decode jdk_42_method_57_code 37 = .ok (.invokestatic 499, 3) := by decide +kernel
theorem d26_40 : decode jdk_42_method_57_code 40 = .ok (.aload_n 0, 1) := by decide +kernel
theorem d26_41 : decode jdk_42_method_57_code 41 = .ok (.getfield 9, 3) := by decide +kernel
theorem d26_44 : decode jdk_42_method_57_code 44 = .ok (.iload_n 1, 1) := by decide +kernel
theorem d26_45 : decode jdk_42_method_57_code 45 = .ok (.iload_n 2, 1) := by decide +kernel
theorem d26_46 : decode jdk_42_method_57_code 46 = .ok (.invokestatic 502, 3) := by decide +kernel
theorem d26_49 : decode jdk_42_method_57_code 49 = .ok (.ireturn, 1) := by decide +kernel
theorem d27_0 : decode jdk_52_method_8_code 0 = .ok (.aload_n 0, 1) := by decide +kernel
theorem d27_1 : decode jdk_52_method_8_code 1 = .ok (.iload_n 1, 1) := by decide +kernel
theorem d27_2 : decode jdk_52_method_8_code 2 = .ok (.iload_n 2, 1) := by decide +kernel
theorem d27_3 : decode jdk_52_method_8_code 3 = .ok (.iconst 0, 1) := by decide +kernel
theorem d27_4 : decode jdk_52_method_8_code 4 = .ok (.invokestatic 88, 3) := by decide +kernel
theorem d27_7 : decode jdk_52_method_8_code 7 = .ok (.ireturn, 1) := by decide +kernel
theorem d28_0 : decode jdk_52_method_7_code 0 = .ok (.getstatic 44, 3) := by decide +kernel
theorem d28_3 : decode jdk_52_method_7_code 3 = .ok (.ifCond .ne 16, 3) := by decide +kernel
theorem d28_19 : decode jdk_52_method_7_code 19 = .ok (.iload_n 3, 1) := by decide +kernel
theorem d28_20 : decode jdk_52_method_7_code 20 = .ok (.ifCond .eq 8, 3) := by decide +kernel
theorem d28_28 : decode jdk_52_method_7_code 28 = .ok (.aload_n 0, 1) := by decide +kernel
theorem d28_29 : decode jdk_52_method_7_code 29 = .ok (.iload_n 1, 1) := by decide +kernel
theorem d28_30 : decode jdk_52_method_7_code 30 = .ok (.invokestatic 71, 3) := by decide +kernel
theorem d28_33 : decode jdk_52_method_7_code 33 = .ok (.istore 4, 2) := by decide +kernel
theorem d28_35 : decode jdk_52_method_7_code 35 = .ok (.iload 4, 2) := by decide +kernel
theorem d28_37 : decode jdk_52_method_7_code 37 = .ok (.invokestatic 75, 3) := by decide +kernel
theorem d28_40 : decode jdk_52_method_7_code 40 = .ok (.ifCond .eq 43, 3) := by decide +kernel
theorem d28_43 : decode jdk_52_method_7_code 43 = .ok (.iinc 1 1, 3) := by decide +kernel
theorem d28_46 : decode jdk_52_method_7_code 46 = .ok (.iload_n 1, 1) := by decide +kernel
theorem d28_47 : decode jdk_52_method_7_code 47 = .ok (.iload_n 2, 1) := by decide +kernel
theorem d28_48 : decode jdk_52_method_7_code 48 = .ok (.if_icmp .ge 35, 3) := by decide +kernel
theorem d28_51 : decode jdk_52_method_7_code 51 = .ok (.iload_n 3, 1) := by decide +kernel
theorem d28_52 : decode jdk_52_method_7_code 52 = .ok (.ifCond .eq 8, 3) := by decide +kernel
theorem d28_60 : decode jdk_52_method_7_code 60 = .ok (.aload_n 0, 1) := by decide +kernel
theorem d28_61 : decode jdk_52_method_7_code 61 = .ok (.iload_n 1, 1) := by decide +kernel
theorem d28_62 : decode jdk_52_method_7_code 62 = .ok (.invokestatic 71, 3) := by decide +kernel
theorem d28_65 : decode jdk_52_method_7_code 65 = .ok (.istore 5, 2) := by decide +kernel
theorem d28_67 : decode jdk_52_method_7_code 67 = .ok (.iload 5, 2) := by decide +kernel
theorem d28_69 : decode jdk_52_method_7_code 69 = .ok (.invokestatic 81, 3) := by decide +kernel
theorem d28_72 : decode jdk_52_method_7_code 72 = .ok (.ifCond .eq 11, 3) := by decide +kernel
theorem d28_75 : decode jdk_52_method_7_code 75 = .ok (.iload 4, 2) := by decide +kernel
theorem d28_77 : decode jdk_52_method_7_code 77 = .ok (.iload 5, 2) := by decide +kernel
theorem d28_79 : decode jdk_52_method_7_code 79 = .ok (.invokestatic 84, 3) := by decide +kernel
theorem d28_82 : decode jdk_52_method_7_code 82 = .ok (.ireturn, 1) := by decide +kernel
theorem d28_83 : decode jdk_52_method_7_code 83 = .ok (.iload 4, 2) := by decide +kernel
theorem d28_85 : decode jdk_52_method_7_code 85 = .ok (.ireturn, 1) := by decide +kernel
theorem d29_0 : decode jdk_89_method_14_code 0 = .ok (.iload_n 0, 1) := by decide +kernel
theorem d29_1 : decode jdk_89_method_14_code 1 = .ok (.ldc 75, 2) := by decide +kernel
theorem d29_3 : decode jdk_89_method_14_code 3 = .ok (.if_icmp .lt 13, 3) := by decide +kernel
theorem d29_6 : decode jdk_89_method_14_code 6 = .ok (.iload_n 0, 1) := by decide +kernel
theorem d29_7 : decode jdk_89_method_14_code 7 = .ok (.ldc 76, 2) := by decide +kernel
theorem d29_9 : decode jdk_89_method_14_code 9 = .ok (.if_icmp .ge 7, 3) := by decide +kernel
theorem d29_12 : decode jdk_89_method_14_code 12 = .ok (.iconst 1, 1) := by decide +kernel
theorem d29_13 : decode jdk_89_method_14_code 13 = .ok (.goto 4, 3) := by decide +kernel
theorem d29_16 : decode jdk_89_method_14_code 16 = .ok (.iconst 0, 1) := by decide +kernel
theorem d29_17 : decode jdk_89_method_14_code 17 = .ok (.ireturn, 1) := by decide +kernel
theorem d30_0 : decode jdk_89_method_18_code 0 = .ok (.iload_n 0, 1) := by decide +kernel
theorem d30_1 : decode jdk_89_method_18_code 1 = .ok (.ldc 73, 2) := by decide +kernel
theorem d30_3 : decode jdk_89_method_18_code 3 = .ok (.if_icmp .lt 7, 3) := by decide +kernel
theorem d30_6 : decode jdk_89_method_18_code 6 = .ok (.iconst 2, 1) := by decide +kernel
theorem d30_7 : decode jdk_89_method_18_code 7 = .ok (.goto 4, 3) := by decide +kernel
theorem d30_10 : decode jdk_89_method_18_code 10 = .ok (.iconst 1, 1) := by decide +kernel
theorem d30_11 : decode jdk_89_method_18_code 11 = .ok (.ireturn, 1) := by decide +kernel
theorem d31_0 : decode jdk_89_method_15_code 0 = .ok (.iload_n 0, 1) := by decide +kernel
theorem d31_1 : decode jdk_89_method_15_code 1 = .ok (.ldc 76, 2) := by decide +kernel
theorem d31_3 : decode jdk_89_method_15_code 3 = .ok (.if_icmp .lt 13, 3) := by decide +kernel
theorem d31_6 : decode jdk_89_method_15_code 6 = .ok (.iload_n 0, 1) := by decide +kernel
theorem d31_7 : decode jdk_89_method_15_code 7 = .ok (.ldc 77, 2) := by decide +kernel
theorem d31_9 : decode jdk_89_method_15_code 9 = .ok (.if_icmp .ge 7, 3) := by decide +kernel
theorem d31_12 : decode jdk_89_method_15_code 12 = .ok (.iconst 1, 1) := by decide +kernel
theorem d31_13 : decode jdk_89_method_15_code 13 = .ok (.goto 4, 3) := by decide +kernel
theorem d31_16 : decode jdk_89_method_15_code 16 = .ok (.iconst 0, 1) := by decide +kernel
theorem d31_17 : decode jdk_89_method_15_code 17 = .ok (.ireturn, 1) := by decide +kernel
theorem d32_0 : decode jdk_89_method_19_code 0 = .ok (.iload_n 0, 1) := by decide +kernel
theorem d32_1 : decode jdk_89_method_19_code 1 = .ok (.bipush 10, 2) := by decide +kernel
theorem d32_3 : decode jdk_89_method_19_code 3 = .ok (.ishl, 1) := by decide +kernel
theorem d32_4 : decode jdk_89_method_19_code 4 = .ok (.iload_n 1, 1) := by decide +kernel
theorem d32_5 : decode jdk_89_method_19_code 5 = .ok (.iadd, 1) := by decide +kernel
theorem d32_6 : decode jdk_89_method_19_code 6 = .ok (.ldc 85, 2) := by decide +kernel
theorem d32_8 : decode jdk_89_method_19_code 8 = .ok (.iadd, 1) := by decide +kernel
theorem d32_9 : decode jdk_89_method_19_code 9 = .ok (.ireturn, 1) := by decide +kernel
theorem d33_0 : decode jdk_43_method_2_code 0 = .ok (.iload_n 1, 1) := by decide +kernel
theorem d33_1 : decode jdk_43_method_2_code 1 = .ok (.aload_n 0, 1) := by decide +kernel
theorem d33_2 : decode jdk_43_method_2_code 2 = .ok (.arraylength, 1) := by decide +kernel
theorem d33_3 : decode jdk_43_method_2_code 3 = .ok (.invokestatic 9, 3) := by decide +kernel
theorem d33_6 : decode jdk_43_method_2_code 6 = .ok (.aload_n 0, 1) := by decide +kernel
theorem d33_7 : decode jdk_43_method_2_code 7 = .ok (.iload_n 1, 1) := by decide +kernel
theorem d33_8 : decode jdk_43_method_2_code 8 = .ok (.baload, 1) := by decide +kernel
theorem d33_9 : decode jdk_43_method_2_code 9 = .ok (.sipush 255, 3) := by decide +kernel
theorem d33_12 : decode jdk_43_method_2_code 12 = .ok (.iand, 1) := by decide +kernel
theorem d33_13 : decode jdk_43_method_2_code 13 = .ok (.i2c, 1) := by decide +kernel
theorem d33_14 : decode jdk_43_method_2_code 14 = .ok (.ireturn, 1) := by decide +kernel
theorem pd0 : parseMethodDescriptor "([CI[BII)I" = some ⟨[(.array .char), .int, (.array .byte), .int, .int], some .int⟩ := by decide +kernel
theorem pd1 : parseMethodDescriptor "([CII)[B" = some ⟨[(.array .char), .int, .int], some (.array .byte)⟩ := by decide +kernel
theorem pd2 : parseMethodDescriptor "([BI)B" = some ⟨[(.array .byte), .int], some .byte⟩ := by decide +kernel
theorem pd3 : parseMethodDescriptor "([CIILjava/lang/Void;)V" = some ⟨[(.array .char), .int, .int, (.object "java/lang/Void")], none⟩ := by decide +kernel
theorem pd4 : parseMethodDescriptor "(I)I" = some ⟨[.int], some .int⟩ := by decide +kernel
theorem pd5 : parseMethodDescriptor "(I)[B" = some ⟨[.int], some (.array .byte)⟩ := by decide +kernel
theorem pd6 : parseMethodDescriptor "([BII)V" = some ⟨[(.array .byte), .int, .int], none⟩ := by decide +kernel
theorem pd7 : parseMethodDescriptor "([BI)C" = some ⟨[(.array .byte), .int], some .char⟩ := by decide +kernel
theorem pd8 : parseMethodDescriptor "()B" = some ⟨[], some .byte⟩ := by decide +kernel
theorem pd9 : parseMethodDescriptor "(IILjava/util/function/BiFunction;)I" = some ⟨[.int, .int, (.object "java/util/function/BiFunction")], some .int⟩ := by decide +kernel
theorem pd10 : parseMethodDescriptor "(II)V" = some ⟨[.int, .int], none⟩ := by decide +kernel
theorem pd11 : parseMethodDescriptor "()Z" = some ⟨[], some .boolean⟩ := by decide +kernel
theorem pd12 : parseMethodDescriptor "([B)I" = some ⟨[(.array .byte)], some .int⟩ := by decide +kernel
theorem pd13 : parseMethodDescriptor "(I[B)V" = some ⟨[.int, (.array .byte)], none⟩ := by decide +kernel
theorem pd14 : parseMethodDescriptor "(C)Z" = some ⟨[.char], some .boolean⟩ := by decide +kernel
theorem pd15 : parseMethodDescriptor "(CC)I" = some ⟨[.char, .char], some .int⟩ := by decide +kernel
theorem pd16 : parseMethodDescriptor "([BIIZ)I" = some ⟨[(.array .byte), .int, .int, .boolean], some .int⟩ := by decide +kernel
theorem pd17 : parseMethodDescriptor "([BII)I" = some ⟨[(.array .byte), .int, .int], some .int⟩ := by decide +kernel
theorem pd18 : parseMethodDescriptor "(I)C" = some ⟨[.int], some .char⟩ := by decide +kernel
theorem pd19 : parseMethodDescriptor "()I" = some ⟨[], some .int⟩ := by decide +kernel
theorem pd20 : parseMethodDescriptor "(Ljava/lang/String;Ljava/lang/String;I)V" = some ⟨[(.object "java/lang/String"), (.object "java/lang/String"), .int], none⟩ := by decide +kernel
theorem pd21 : parseMethodDescriptor "(II)I" = some ⟨[.int, .int], some .int⟩ := by decide +kernel
theorem pd22 : parseMethodDescriptor "([CIII)I" = some ⟨[(.array .char), .int, .int, .int], some .int⟩ := by decide +kernel
theorem pd23 : parseMethodDescriptor "([C)V" = some ⟨[(.array .char)], none⟩ := by decide +kernel
theorem pd24 : parseMethodDescriptor "(Ljava/lang/String;Ljava/lang/String;)J" = some ⟨[(.object "java/lang/String"), (.object "java/lang/String")], some .long⟩ := by decide +kernel

/-- a String of n chars, each 0 to 255: its byte array at b spells them -/
def Str (Z : State) (h : Heap) (s b : Addr) (k : ClassId) (n : Nat) (f : Nat → Int32) : Prop :=
  Exa Z h s "java/lang/String" ∧ Fld Z h s "java/lang/String" "coder" "B" (.int 0) ∧ Fld Z h s "java/lang/String" "value" "[B" (.ref b) ∧ Arf Z h b k .byte n (fun i => .int (f i))
section StrS
variable {Z : State} {h h' : Heap} {s b a : Addr} {k : ClassId} {n sl : Nat} {f : Nat → Int32} {v : Value} {ws : List Addr}
theorem Str.ext (F : Str Z h s b k n f) (E : Ext h h') : Str Z h' s b k n f := ⟨F.1.ext E, F.2.1.ext E, F.2.2.1.ext E, F.2.2.2.ext E⟩
theorem Str.other (F : Str Z h s b k n f) (W : Wr h h' a sl v) (q : s ≠ a) (q' : b ≠ a) : Str Z h' s b k n f := ⟨F.1.wr W, F.2.1.other W (Or.inl q), F.2.2.1.other W (Or.inl q), F.2.2.2.other W q'⟩
theorem Str.keep (F : Str Z h s b k n f) (K : Keep h h' ws) (q : s ∉ ws) (q' : b ∉ ws) : Str Z h' s b k n f := ⟨F.1.keep K, F.2.1.keep K q, F.2.2.1.keep K q, F.2.2.2.keep K q'⟩
theorem Str.lt (F : Str Z h s b k n f) : s < h.size := F.1.lt
theorem Str.lt' (F : Str Z h s b k n f) : b < h.size := F.2.2.2.lt
end StrS
theorem step_set {α : Type} {g : Nat → α} {f : Nat → α} (x : Nat) (j : Int) (h : 0 ≤ j) : (if x = j.toNat then f j.toNat else if x < j.toNat then f x else g x) = if x < (j + 1).toNat then f x else g x := by
  rcases Nat.lt_trichotomy x j.toNat with q | q | q
  · rw [if_neg (by omega), if_pos q, if_pos (by omega)]
  · rw [if_pos q, if_pos (by omega), q]
  · rw [if_neg (by omega), if_neg (by omega), if_neg (by omega)]
theorem byte_inj {x y : Int32} (h1 : 0 ≤ x.toInt) (h2 : x.toInt ≤ 255) (h3 : 0 ≤ y.toInt) (h4 : y.toInt ≤ 255) (e : x.toInt8.toInt32 = y.toInt8.toInt32) : x = y := by
  have a := c_i2b x; have b := c_i2b y; rw [e] at a; exact of_toInt (by omega)

theorem shr0 (z : Int32) : z >>> ((0 : Int32) &&& 31) = z := of_toInt (by rw [c_ishr z 0 0 (by decide)]; simp)
theorem chr_of (b : Int32) : ((b &&& 255).toUInt32.toUInt16.toUInt32.toInt32).toInt = b.toInt % 256 := by
  have h1 := c_mask b 255 8 (by decide) (by decide)
  have h2 := c_i2c (b &&& 255)
  omega
theorem nr_char {r : Int32} (h1 : 0 ≤ r.toInt) (h2 : r.toInt < 65536) : narrow .char (.int r) = .int r := congrArg Value.int (of_toInt (by have := c_i2c r; omega))
theorem nr_i2c (x : Int32) : narrow .char (.int (x.toUInt32.toUInt16.toUInt32.toInt32)) = .int (x.toUInt32.toUInt16.toUInt32.toInt32) := nr_char (c_i2c x).2.1 (c_i2c x).2.2
theorem chr_byte {x : Int32} (h1 : 0 ≤ x.toInt) (h2 : x.toInt ≤ 255) : (x.toInt8.toInt32).toInt % 256 = x.toInt := by have := c_i2b x; omega
theorem s_isRef {s : State} {args : Array Value} {CC n d : String} (h0 : (Cond.initializedFor CC n d).before args s = true) (h1 : (Cond.isRef (Term.static CC n d)).before args s = true) : ∃ v : Value, Sta s s.heap CC n d v ∧ v.isRef = true := by
  obtain ⟨x, ev, hr⟩ := Cond.isRef_spec h1
  exact ⟨x, Sta.start ev (Or.inl h0), hr⟩

/-- the two bytes of a char, the low one first -/
def ulo (x : Int32) : Int32 := x.toInt8.toInt32
def uhi (x : Int32) : Int32 := (x >>> ((8 : Int32) &&& 31)).toInt8.toInt32
def ub (c : Nat → Int32) (i : Nat) : Int32 := if i % 2 = 0 then ulo (c (i / 2)) else uhi (c (i / 2))
theorem ub_lo (c : Nat → Int32) (i : Nat) : ub c (2 * i) = ulo (c i) := by unfold ub; rw [if_pos (by omega), show 2 * i / 2 = i by omega]
theorem ub_hi (c : Nat → Int32) (i : Nat) : ub c (2 * i + 1) = uhi (c i) := by unfold ub; rw [if_neg (by omega), show (2 * i + 1) / 2 = i by omega]
theorem u_join (x : Int32) (h1 : 0 ≤ x.toInt) (h2 : x.toInt < 65536) : ((((ulo x &&& 255) <<< ((0 : Int32) &&& 31)) ||| ((uhi x &&& 255) <<< ((8 : Int32) &&& 31))).toUInt32.toUInt16.toUInt32.toInt32) = x := by
  have a1 := c_mask (ulo x) 255 8 (by decide) (by decide)
  have a2 := c_mask (uhi x) 255 8 (by decide) (by decide)
  have b1 := c_i2b x
  have b2 := c_i2b (x >>> ((8 : Int32) &&& 31))
  have b3 := c_ishr x 8 8 (by decide)
  have d1 := c_ishl (ulo x &&& 255) 0 0 (by decide)
  have d2 := c_ishl (uhi x &&& 255) 8 8 (by decide)
  have r1 := rgI ((ulo x &&& 255) <<< ((0 : Int32) &&& 31))
  have r2 := rgI ((uhi x &&& 255) <<< ((8 : Int32) &&& 31))
  have e1 : (ulo x &&& 255).toInt = x.toInt % 256 := by unfold ulo at *; omega
  have e2 : (uhi x &&& 255).toInt = x.toInt / 256 := by unfold uhi at *; omega
  have e3 : ((ulo x &&& 255) <<< ((0 : Int32) &&& 31)).toInt = x.toInt % 256 := by omega
  have e4 : ((uhi x &&& 255) <<< ((8 : Int32) &&& 31)).toInt = x.toInt / 256 * 256 := by omega
  have o1 := c_or' ((ulo x &&& 255) <<< ((0 : Int32) &&& 31)) ((uhi x &&& 255) <<< ((8 : Int32) &&& 31)) 8 (by decide) 256 rfl (by omega) (by omega) (by omega)
  have r3 := rgI (((ulo x &&& 255) <<< ((0 : Int32) &&& 31)) ||| ((uhi x &&& 255) <<< ((8 : Int32) &&& 31)))
  have o2 := c_i2c (((ulo x &&& 255) <<< ((0 : Int32) &&& 31)) ||| ((uhi x &&& 255) <<< ((8 : Int32) &&& 31)))
  exact of_toInt (by omega)
theorem shl1 (x : Int32) (i : Nat) (h : x.toInt = i) (hi : i < 1073741823) : (x <<< ((1 : Int32) &&& 31)).toInt = (2 * i : Nat) := by
  have := c_ishl x 1 1 (by decide); have := rgI (x <<< ((1 : Int32) &&& 31)); omega
theorem shr1 (x : Int32) (n : Nat) (h : x.toInt = (2 * n : Nat)) : (x >>> ((1 : Int32) &&& 31)).toInt = n := by
  have := c_ishr x 1 1 (by decide); omega
def Stu (Z : State) (h : Heap) (s b : Addr) (k : ClassId) (n : Nat) (c : Nat → Int32) : Prop :=
  Exa Z h s "java/lang/String" ∧ Fld Z h s "java/lang/String" "coder" "B" (.int 1) ∧ Fld Z h s "java/lang/String" "value" "[B" (.ref b) ∧ Arf Z h b k .byte (2 * n) (fun i => .int (ub c i))

theorem ucod (z z2 : Int32) (n : Nat) (hz : z.toInt = n) (h2 : z2.toInt = (2 * n : Nat)) (hn : 0 < n) (hn9 : n < 1000000) : ((z - z2).toUInt32 >>> ((31 : Int32) &&& 31).toUInt32).toInt32 = 1 := by
  have a := isub_toInt (x := z) (y := z2) (by omega) (by omega)
  have b := c_iushr (z - z2) 31 31 (by decide) (by decide)
  exact of_toInt (by rw [b, a, hz, h2, show (1 : Int32).toInt = 1 from rfl]; omega)
theorem ub_step {c : Nat → Int32} {g : Nat → Value} (x i : Nat) : (if x = 2 * i + 1 then Value.int (uhi (c i)) else if x = 2 * i then .int (ulo (c i)) else if x < 2 * i then .int (ub c x) else g x) = if x < 2 * (i + 1) then .int (ub c x) else g x := by
  by_cases q1 : x = 2 * i + 1
  · rw [if_pos q1, if_pos (by omega), q1, ub_hi]
  · rw [if_neg q1]
    by_cases q2 : x = 2 * i
    · rw [if_pos q2, if_pos (by omega), q2, ub_lo]
    · rw [if_neg q2]
      by_cases q3 : x < 2 * i
      · rw [if_pos q3, if_pos (by omega)]
      · rw [if_neg q3, if_neg (by omega)]

def HiS (x : Int32) : Prop := 55296 ≤ x.toInt ∧ x.toInt < 56320
def LoS (x : Int32) : Prop := 56320 ≤ x.toInt ∧ x.toInt < 57344
instance (x : Int32) : Decidable (HiS x) := inferInstanceAs (Decidable (_ ∧ _))
instance (x : Int32) : Decidable (LoS x) := inferInstanceAs (Decidable (_ ∧ _))
def cpJ (x y : Int32) : Int32 := ((x <<< ((10 : Int32) &&& 31)) + y) + (-56613888 : Int32)
def cpA (c : Nat → Int32) (n i : Nat) : Int32 := if HiS (c i) ∧ i + 1 < n ∧ LoS (c (i + 1)) then cpJ (c i) (c (i + 1)) else c i
def Txt (Z : State) (h : Heap) (s : Addr) (n : Nat) (c : Nat → Int32) : Prop :=
  (∃ b k, Str Z h s b k n (fun i => (c i).toInt8.toInt32) ∧ ∀ i, i < n → 0 ≤ (c i).toInt ∧ (c i).toInt ≤ 255) ∨ ∃ b k, Stu Z h s b k n c
theorem Stu.ext {Z : State} {h h' : Heap} {s b : Addr} {k : ClassId} {n : Nat} {c : Nat → Int32} (F : Stu Z h s b k n c) (E : Ext h h') : Stu Z h' s b k n c := ⟨F.1.ext E, F.2.1.ext E, F.2.2.1.ext E, F.2.2.2.ext E⟩
theorem Txt.ext {Z : State} {h h' : Heap} {s : Addr} {n : Nat} {c : Nat → Int32} (F : Txt Z h s n c) (E : Ext h h') : Txt Z h' s n c := by
  rcases F with ⟨b, k, F, r⟩ | ⟨b, k, F⟩
  · exact Or.inl ⟨b, k, F.ext E, r⟩
  · exact Or.inr ⟨b, k, F.ext E⟩
theorem Txt.exa {Z : State} {h : Heap} {s : Addr} {n : Nat} {c : Nat → Int32} (F : Txt Z h s n c) : Exa Z h s "java/lang/String" := by
  rcases F with ⟨b, k, F, r⟩ | ⟨b, k, F⟩
  · exact F.1
  · exact F.1

def cnt (x : Int32) : Nat := if x.toInt < 65536 then 1 else 2
def wid (x : Int32) : Int := if x.toInt < 128 then 1 else if x.toInt < 2048 then 2 else if x.toInt < 65536 then 3 else 4
def Sur (x : Int32) : Prop := 55296 ≤ x.toInt ∧ x.toInt < 57344
def Bmp (x : Int32) : Prop := 0 ≤ x.toInt ∧ x.toInt < 65536 ∧ ¬ (55296 ≤ x.toInt ∧ x.toInt < 57344)
def PairOK (x y r : Int32) : Prop := (HiS x ∧ LoS y ∧ r.toInt = 4) ∨ (Bmp x ∧ Bmp y ∧ r.toInt = wid x + wid y)
def Kd (k : Nat) (r : Int32) : Prop := (k = 0 → 0 ≤ r.toInt ∧ r.toInt < 128) ∧ (k = 1 → 128 ≤ r.toInt ∧ r.toInt < 2048) ∧ (k = 2 → 2048 ≤ r.toInt ∧ r.toInt < 65536 ∧ ¬ (55296 ≤ r.toInt ∧ r.toInt < 57344)) ∧ (k = 3 → 65536 ≤ r.toInt ∧ r.toInt < 1114112)
theorem Kd.bmp {k : Nat} {r : Int32} (h : Kd k r) (hk : k ≤ 2) : Bmp r ∧ wid r = k + 1 := by
  obtain ⟨h0, h1, h2, -⟩ := h
  obtain rfl | rfl | rfl : k = 0 ∨ k = 1 ∨ k = 2 := by omega
  · have := h0 rfl; unfold Bmp wid; refine ⟨⟨by omega, by omega, by omega⟩, ?_⟩; rw [if_pos (by omega)]; rfl
  · have := h1 rfl; unfold Bmp wid; refine ⟨⟨by omega, by omega, by omega⟩, ?_⟩; rw [if_neg (by omega), if_pos (by omega)]; rfl
  · have := h2 rfl; unfold Bmp wid; refine ⟨⟨by omega, by omega, by omega⟩, ?_⟩; rw [if_neg (by omega), if_neg (by omega), if_pos (by omega)]; rfl
theorem nar_c {r : Int32} (h1 : 0 ≤ r.toInt) (h2 : r.toInt < 65536) : nar .char r = r := by
  have := c_i2c r; exact of_toInt (by simp only [nar]; omega)
theorem i2c_c {r : Int32} (h1 : 0 ≤ r.toInt) (h2 : r.toInt < 65536) : r.toUInt32.toUInt16.toUInt32.toInt32 = r := by
  have := c_i2c r; exact of_toInt (by omega)
theorem cpJ_rng {x y : Int32} (h1 : HiS x) (h2 : LoS y) : 65536 ≤ (cpJ x y).toInt := by
  obtain ⟨a, b⟩ := h1; obtain ⟨d, e⟩ := h2
  have s1 := c_ishl x 10 10 (by decide)
  have r1 := rgI (x <<< ((10 : Int32) &&& 31))
  have q1 : (x <<< ((10 : Int32) &&& 31)).toInt = x.toInt * 1024 := by omega
  have q2 : ((x <<< ((10 : Int32) &&& 31)) + y).toInt = x.toInt * 1024 + y.toInt := by rw [iadd_toInt (by omega) (by omega), q1]
  unfold cpJ
  rw [iadd_toInt (by rw [q2, show (-56613888 : Int32).toInt = -56613888 from rfl]; omega) (by rw [q2, show (-56613888 : Int32).toInt = -56613888 from rfl]; omega), q2, show (-56613888 : Int32).toInt = -56613888 from rfl]; omega
theorem first_big (c : Nat → Int32) : ∀ n : Nat, (∀ i, i < n → (c i).toInt ≤ 255) ∨ ∃ j, j < n ∧ 255 < (c j).toInt ∧ ∀ i, i < j → (c i).toInt ≤ 255
  | 0 => Or.inl fun i hi => absurd hi (Nat.not_lt_zero _)
  | n + 1 => by
    rcases first_big c n with h | ⟨j, h1, h2, h3⟩
    · by_cases q : (c n).toInt ≤ 255
      · exact Or.inl fun i hi => by rcases Nat.lt_or_ge i n with r | r; exact h i r; rw [show i = n by omega]; exact q
      · exact Or.inr ⟨n, Nat.lt_succ_self n, by omega, h⟩
    · exact Or.inr ⟨j, by omega, h2, h3⟩

theorem pn_22 : plainFor (⟨"java/lang/StringUTF16", "length", "([B)I"⟩ : MethodName) = true := plainFor_of_name (by first | (simp [plainName, overriddenIn]; done) | decide +kernel)
set_option maxRecDepth 65536 in
set_option maxHeartbeats 40000000 in
theorem u_len {Z : State} {a0 : Array Value} (hw : HW a0 Z) (b : Addr) (k : ClassId) (n : Nat) (z z2 : Int32) (f : Nat → Value) (h0 : Heap) (n0 : Nat) (sf0 : List Addr) (B : Arf Z h0 b k .byte (2 * n) f) (hz : z.toInt = n) (hz2 : z2.toInt = (2 * n : Nat)) :
    MetW Z consts_1 sf0 (⟨"java/lang/StringUTF16", "length", "([B)I"⟩ : MethodName) jdk_52_method_6_code 1 (some .int) [] ({ frames := 0, cells := 0, slots := 0, locals := 0 } : Room) #[(.ref b)] h0 n0 (fun v h sf => v = some (.int z) ∧ h = h0) := by
  refine k_body (hEW hw) (f := (fun m => mkF m 0 #[.val (.ref b)] [])) pn_22 (fun m => by first | (simp [entryFrame, mkF, argsToLocals, Value.category, maxLocals]; done) | rfl) ?_
  intro Γ T G X
  show Go Γ n0 _ T (mkF Γ.m 0 #[.val (.ref b)] [])
  refine k_aloadN G X d22_0 (pc' := 1) rfl rfl rfl ?_
  refine k_alen G X (z := z2) B hz2 d22_1 (pc' := 2) rfl ?_
  refine k_iconst G X d22_2 (pc' := 3) rfl (z := (1 : Int32)) (by decide) ?_
  refine k_ishr G X d22_3 (pc' := 4) rfl rfl ?_
  obtain ⟨zz, qz⟩ : ∃ z, (z2 >>> ((1 : Int32) &&& 31)) = z := ⟨_, rfl⟩
  have hzz := shr1 z2 n hz2
  rw [qz] at hzz ⊢
  obtain rfl : z = zz := of_toInt (by rw [hz, hzz])
  refine k_reti G X d22_4 rfl ?_ (by decide) (by decide)
  exact ⟨rfl, rfl⟩
theorem pn_12 : plainFor (⟨"java/lang/StringUTF16", "getChar", "([BI)C"⟩ : MethodName) = true := plainFor_of_name (by first | (simp [plainName, overriddenIn]; done) | decide +kernel)
set_option maxRecDepth 65536 in
set_option maxHeartbeats 40000000 in
theorem u_get {Z : State} {a0 : Array Value} (hw : HW a0 Z) (b : Addr) (k : ClassId) (n i : Nat) (zi : Int32) (c : Nat → Int32) (h0 : Heap) (n0 : Nat) (sf0 : List Addr) (B : Arf Z h0 b k .byte (2 * n) (fun i => .int (ub c i))) (hi : zi.toInt = i) (hin : i < n) (hn9 : n < 1000000) (hc : 0 ≤ (c i).toInt ∧ (c i).toInt < 65536) (S_AD : Sta Z h0 "java/lang/StringUTF16" "$assertionsDisabled" "Z" (.int 1)) (S_HI : Sta Z h0 "java/lang/StringUTF16" "HI_BYTE_SHIFT" "I" (.int 0)) (S_LO : Sta Z h0 "java/lang/StringUTF16" "LO_BYTE_SHIFT" "I" (.int 8)) :
    MetW Z consts_1 sf0 (⟨"java/lang/StringUTF16", "getChar", "([BI)C"⟩ : MethodName) jdk_52_method_5_code 2 (some .char) [] ({ frames := 0, cells := 0, slots := 0, locals := 0 } : Room) #[(.ref b), (.int zi)] h0 n0 (fun v h sf => v = some (.int (c i)) ∧ h = h0) := by
  refine k_body (hEW hw) (f := (fun m => mkF m 0 #[.val (.ref b), .val (.int zi)] [])) pn_12 (fun m => by first | (simp [entryFrame, mkF, argsToLocals, Value.category, maxLocals]; done) | rfl) ?_
  intro Γ T G X
  have h2i := shl1 zi i hi (by omega)
  have h2j : ((zi <<< ((1 : Int32) &&& 31)) + (1 : Int32)).toInt = (2 * i + 1 : Nat) := by rw [iadd_toInt (by rw [show (1 : Int32).toInt = 1 from rfl]; omega) (by rw [show (1 : Int32).toInt = 1 from rfl]; omega), h2i]; rfl
  show Go Γ n0 _ T (mkF Γ.m 0 #[.val (.ref b), .val (.int zi)] [])
  refine k_getS G X (host := "") (Or.inl (w45 hw)) Via.refl S_AD d12_0 (pc' := 3) rfl (fun T X => ?_)
  refine k_if_ne G X d12_3 (pc' := 28) rfl (by decide) (pc'' := 6) rfl (fun c3 => ?_) (fun c3 => (absurd c3 (by decide)))
  refine k_iloadN G X d12_28 (pc' := 29) rfl rfl ?_
  refine k_iconst G X d12_29 (pc' := 30) rfl (z := (1 : Int32)) (by decide) ?_
  refine k_ishl G X d12_30 (pc' := 31) rfl rfl ?_
  refine k_istoreN G X d12_31 (pc' := 32) rfl (l' := #[.val (.ref b), .val (.int (zi <<< ((1 : Int32) &&& 31)))]) rfl ?_
  refine k_aloadN G X d12_32 (pc' := 33) rfl rfl rfl ?_
  refine k_iloadN G X d12_33 (pc' := 34) rfl rfl ?_
  refine k_iinc G X d12_34 (pc' := 37) rfl rfl (z := ((zi <<< ((1 : Int32) &&& 31)) + (1 : Int32))) rfl (l' := #[.val (.ref b), .val (.int ((zi <<< ((1 : Int32) &&& 31)) + (1 : Int32)))]) rfl ?_
  refine k_baload G X (i := (2 * i)) (v := (.int (ulo (c i)))) B h2i (by omega) (congrArg Value.int (ub_lo c i)) d12_37 (pc' := 38) rfl ?_
  refine k_sipush G X d12_38 (pc' := 41) rfl (z := (255 : Int32)) (by decide) ?_
  refine k_iand G X d12_41 (pc' := 42) rfl rfl ?_
  refine k_getS G X (host := "") (Or.inl (w46 hw)) Via.refl S_HI d12_42 (pc' := 45) rfl (fun T X => ?_)
  refine k_ishl G X d12_45 (pc' := 46) rfl rfl ?_
  refine k_aloadN G X d12_46 (pc' := 47) rfl rfl rfl ?_
  refine k_iloadN G X d12_47 (pc' := 48) rfl rfl ?_
  refine k_baload G X (i := (2 * i + 1)) (v := (.int (uhi (c i)))) B h2j (by omega) (congrArg Value.int (ub_hi c i)) d12_48 (pc' := 49) rfl ?_
  refine k_sipush G X d12_49 (pc' := 52) rfl (z := (255 : Int32)) (by decide) ?_
  refine k_iand G X d12_52 (pc' := 53) rfl rfl ?_
  refine k_getS G X (host := "") (Or.inl (w47 hw)) Via.refl S_LO d12_53 (pc' := 56) rfl (fun T X => ?_)
  refine k_ishl G X d12_56 (pc' := 57) rfl rfl ?_
  refine k_ior G X d12_57 (pc' := 58) rfl rfl ?_
  refine k_i2c G X d12_58 (pc' := 59) rfl rfl ?_
  rw [u_join (c i) hc.1 hc.2]
  refine k_retb G X d12_59 (t := .char) rfl (by simp) (nr_char hc.1 hc.2) ?_ (by decide) (by decide)
  exact ⟨rfl, rfl⟩
theorem pn_11 : plainFor (⟨"java/lang/StringUTF16", "putChar", "([BII)V"⟩ : MethodName) = true := plainFor_of_name (by first | (simp [plainName, overriddenIn]; done) | decide +kernel)
set_option maxRecDepth 65536 in
set_option maxHeartbeats 40000000 in
theorem u_put {Z : State} {a0 : Array Value} (hw : HW a0 Z) (b : Addr) (k : ClassId) (n i : Nat) (zi x : Int32) (f : Nat → Value) (h0 : Heap) (n0 : Nat) (sf0 : List Addr) (B : Arf Z h0 b k .byte (2 * n) f) (gm_b : n0 ≤ b ∧ b ∈ sf0) (hi : zi.toInt = i) (hin : i < n) (hn9 : n < 1000000) (S_AD : Sta Z h0 "java/lang/StringUTF16" "$assertionsDisabled" "Z" (.int 1)) (S_HI : Sta Z h0 "java/lang/StringUTF16" "HI_BYTE_SHIFT" "I" (.int 0)) (S_LO : Sta Z h0 "java/lang/StringUTF16" "LO_BYTE_SHIFT" "I" (.int 8)) :
    MetW Z consts_1 sf0 (⟨"java/lang/StringUTF16", "putChar", "([BII)V"⟩ : MethodName) jdk_52_method_4_code 3 none [] ({ frames := 0, cells := 0, slots := 0, locals := 0 } : Room) #[(.ref b), (.int zi), (.int x)] h0 n0 (fun v h sf => v = none ∧ Keep h0 h [b] ∧ Arf Z h b k .byte (2 * n) (fun j => if j = 2 * i + 1 then .int (uhi x) else if j = 2 * i then .int (ulo x) else f j)) := by
  refine k_body (hEW hw) (f := (fun m => mkF m 0 #[.val (.ref b), .val (.int zi), .val (.int x)] [])) pn_11 (fun m => by first | (simp [entryFrame, mkF, argsToLocals, Value.category, maxLocals]; done) | rfl) ?_
  intro Γ T G X
  have ge_b := gm_b.1
  have KP := Keep.refl h0 [b]
  have h2i := shl1 zi i hi (by omega)
  have h2j : ((zi <<< ((1 : Int32) &&& 31)) + (1 : Int32)).toInt = (2 * i + 1 : Nat) := by rw [iadd_toInt (by rw [show (1 : Int32).toInt = 1 from rfl]; omega) (by rw [show (1 : Int32).toInt = 1 from rfl]; omega), h2i]; rfl
  show Go Γ n0 _ T (mkF Γ.m 0 #[.val (.ref b), .val (.int zi), .val (.int x)] [])
  refine k_getS G X (host := "") (Or.inl (w45 hw)) Via.refl S_AD d11_0 (pc' := 3) rfl (fun T X => ?_)
  refine k_if_ne G X d11_3 (pc' := 28) rfl (by decide) (pc'' := 6) rfl (fun c3 => ?_) (fun c3 => (absurd c3 (by decide)))
  refine k_iloadN G X d11_28 (pc' := 29) rfl rfl ?_
  refine k_iconst G X d11_29 (pc' := 30) rfl (z := (1 : Int32)) (by decide) ?_
  refine k_ishl G X d11_30 (pc' := 31) rfl rfl ?_
  refine k_istoreN G X d11_31 (pc' := 32) rfl (l' := #[.val (.ref b), .val (.int (zi <<< ((1 : Int32) &&& 31))), .val (.int x)]) rfl ?_
  refine k_aloadN G X d11_32 (pc' := 33) rfl rfl rfl ?_
  refine k_iloadN G X d11_33 (pc' := 34) rfl rfl ?_
  refine k_iinc G X d11_34 (pc' := 37) rfl rfl (z := ((zi <<< ((1 : Int32) &&& 31)) + (1 : Int32))) rfl (l' := #[.val (.ref b), .val (.int ((zi <<< ((1 : Int32) &&& 31)) + (1 : Int32))), .val (.int x)]) rfl ?_
  refine k_iloadN G X d11_37 (pc' := 38) rfl rfl ?_
  refine k_getS G X (host := "") (Or.inl (w46 hw)) Via.refl S_HI d11_38 (pc' := 41) rfl (fun T X => ?_)
  refine k_ishr G X d11_41 (pc' := 42) rfl rfl ?_
  refine k_i2b G X d11_42 (pc' := 43) rfl rfl ?_
  refine k_bastore G X (i := (2 * i)) (z := (ulo x)) B h2i (by omega) (by simp only [nar, ulo]; rw [show x >>> ((0 : Int32) &&& 31) = x from shr0 x]; exact of_toInt (by have := c_i2b x; have := c_i2b x.toInt8.toInt32; omega)) ge_b (List.mem_append_right [] gm_b.2) d11_43 (pc' := 44) rfl (fun T h43 W43 B X => ?_)
  replace KP := KP.wr W43 (Or.inl (List.mem_of_getElem? (i := 0) rfl))
  replace S_AD := S_AD.wr W43
  replace S_HI := S_HI.wr W43
  replace S_LO := S_LO.wr W43
  refine k_aloadN G X d11_44 (pc' := 45) rfl rfl rfl ?_
  refine k_iloadN G X d11_45 (pc' := 46) rfl rfl ?_
  refine k_iloadN G X d11_46 (pc' := 47) rfl rfl ?_
  refine k_getS G X (host := "") (Or.inl (w47 hw)) Via.refl S_LO d11_47 (pc' := 50) rfl (fun T X => ?_)
  refine k_ishr G X d11_50 (pc' := 51) rfl rfl ?_
  refine k_i2b G X d11_51 (pc' := 52) rfl rfl ?_
  refine k_bastore G X (i := (2 * i + 1)) (z := (uhi x)) B h2j (by omega) (by simp only [nar, uhi]; exact of_toInt (by have := c_i2b (x >>> ((8 : Int32) &&& 31)); have := c_i2b (x >>> ((8 : Int32) &&& 31)).toInt8.toInt32; omega)) ge_b (List.mem_append_right [] gm_b.2) d11_52 (pc' := 53) rfl (fun T h52 W52 B X => ?_)
  replace KP := KP.wr W52 (Or.inl (List.mem_of_getElem? (i := 0) rfl))
  replace S_AD := S_AD.wr W52
  replace S_HI := S_HI.wr W52
  replace S_LO := S_LO.wr W52
  refine k_retv G X d11_53 rfl ?_ (by decide) (by decide)
  exact ⟨rfl, KP, B⟩
theorem pn_7 : plainFor (⟨"java/lang/StringUTF16", "compress", "([CI[BII)I"⟩ : MethodName) = true := plainFor_of_name (by first | (simp [plainName, overriddenIn]; done) | decide +kernel)
set_option maxRecDepth 65536 in
set_option maxHeartbeats 40000000 in
theorem str_cmp1 {Z : State} {a0 : Array Value} (hw : HW a0 Z) (a b : Addr) (ka kb : ClassId) (n : Nat) (z : Int32) (c : Nat → Int32) (g : Nat → Value) (h0 : Heap) (n0 : Nat) (sf0 : List Addr) (hz : z.toInt = n) (A : Arf Z h0 a ka .char n (fun i => .int (c i))) (B : Arf Z h0 b kb .byte n g) (ne_a_b : a ≠ b) (gm_b : n0 ≤ b ∧ b ∈ sf0) (hc : ∀ i, i < n → 0 ≤ (c i).toInt ∧ (c i).toInt ≤ 255) :
    MetW Z consts_1 sf0 (⟨"java/lang/StringUTF16", "compress", "([CI[BII)I"⟩ : MethodName) jdk_52_method_21_code 7 (some .int) [] ({ frames := 0, cells := 0, slots := 0, locals := 0 } : Room) #[(.ref a), (.int (0 : Int32)), (.ref b), (.int (0 : Int32)), (.int z)] h0 n0 (fun v h sf => v = some (.int z) ∧ Keep h0 h [b] ∧ Arf Z h b kb .byte n (fun i => .int (c i).toInt8.toInt32)) := by
  refine k_body (hEW hw) (f := (fun m => mkF m 0 #[.val (.ref a), .val (.int (0 : Int32)), .val (.ref b), .val (.int (0 : Int32)), .val (.int z), .unset, .unset] [])) pn_7 (fun m => by first | (simp [entryFrame, mkF, argsToLocals, Value.category, maxLocals]; done) | rfl) ?_
  intro Γ T G X
  have ge_b := gm_b.1
  show Go Γ n0 _ T (mkF Γ.m 0 #[.val (.ref a), .val (.int (0 : Int32)), .val (.ref b), .val (.int (0 : Int32)), .val (.int z), .unset, .unset] [])
  refine k_iconst G X d7_0 (pc' := 1) rfl (z := (0 : Int32)) (by decide) ?_
  refine k_istore G X d7_1 (pc' := 3) rfl (l' := #[.val (.ref a), .val (.int (0 : Int32)), .val (.ref b), .val (.int (0 : Int32)), .val (.int z), .val (.int (0 : Int32)), .unset]) rfl ?_
  have LOOP : ∀ (k : Nat) (T : State) (h1 : Heap) (i : Int32) (s6 : Slot), ((s6 = .unset ∨ ∃ w, s6 = .val w ∧ w.category = 1)) → (Arf Z h1 a ka .char n (fun i => .int (c i))) → (Arf Z h1 b kb .byte n (fun x => if x < i.toInt.toNat then .int (c x).toInt8.toInt32 else g x)) → (Keep h0 h1 [b]) → (0 ≤ i.toInt) → (i.toInt ≤ n) → n - i.toInt.toNat = k → W Γ n0 T h1 0 0 (sf0) → Go Γ n0 (fun v h sf => v = some (.int z) ∧ Keep h0 h [b] ∧ Arf Z h b kb .byte n (fun i => .int (c i).toInt8.toInt32)) T (mkF Γ.m 3 #[.val (.ref a), .val (.int i), .val (.ref b), .val (.int i), .val (.int z), .val (.int i), s6] []) := by
    intro k
    induction k using Nat.strongRecOn with
    | _ k ih =>
      intro T h1 i s6 h_s6 A B KP hi0 hin hk X
      refine k_iload G X d7_3 (pc' := 5) rfl rfl ?_
      refine k_iload G X d7_5 (pc' := 7) rfl rfl ?_
      refine k_icmp_ge G X d7_7 (pc' := 44) rfl (by decide) (pc'' := 10) rfl (fun c7 => ?_) (fun c7 => ?_)
      · refine k_iload G X d7_44 (pc' := 46) rfl rfl ?_
        refine k_reti G X d7_46 rfl ?_ (by decide) (by decide)
        refine ⟨rfl, KP, B.congr fun x hx => ?_⟩
        rw [if_pos (by omega)]
      · have hlt : i.toInt < n := by omega
        have hi1 : (i + (1 : Int32)).toInt = i.toInt + 1 := iadd_toInt (by rw [show (1 : Int32).toInt = 1 from rfl]; omega) (by rw [show (1 : Int32).toInt = 1 from rfl]; have := A.size_lt; omega)
        have hci := hc i.toInt.toNat (by omega)
        refine k_aloadN G X d7_10 (pc' := 11) rfl rfl rfl ?_
        refine k_iloadN G X d7_11 (pc' := 12) rfl rfl ?_
        refine k_caload G X (i := i.toInt.toNat) (v := (.int (c i.toInt.toNat))) A (by omega) (by omega) rfl d7_12 (pc' := 13) rfl ?_
        refine k_istoreS G X d7_13 (pc' := 15) rfl rfl h_s6 (l' := #[.val (.ref a), .val (.int i), .val (.ref b), .val (.int i), .val (.int z), .val (.int i), .val (.int (c i.toInt.toNat))]) rfl ?_
        refine k_iload G X d7_15 (pc' := 17) rfl rfl ?_
        refine k_sipush G X d7_17 (pc' := 20) rfl (z := (255 : Int32)) (by decide) ?_
        refine k_icmp_le G X d7_20 (pc' := 26) rfl (by decide) (pc'' := 23) rfl (fun c20 => ?_) (fun c20 => (absurd c20 (by rw [show (255 : Int32).toInt = 255 from rfl]; omega)))
        refine k_aloadN G X d7_26 (pc' := 27) rfl rfl rfl ?_
        refine k_iloadN G X d7_27 (pc' := 28) rfl rfl ?_
        refine k_iload G X d7_28 (pc' := 30) rfl rfl ?_
        refine k_i2b G X d7_30 (pc' := 31) rfl rfl ?_
        refine k_bastore G X (i := i.toInt.toNat) (z := (c i.toInt.toNat).toInt8.toInt32) B (by omega) (by omega) (by simp [nar]) ge_b (List.mem_append_right [] gm_b.2) d7_31 (pc' := 32) rfl (fun T h31 W31 B X => ?_)
        replace A := A.other W31 ne_a_b
        replace KP := KP.wr W31 (Or.inl (List.mem_of_getElem? (i := 0) rfl))
        refine k_iinc G X d7_32 (pc' := 35) rfl rfl (z := (i + (1 : Int32))) rfl (l' := #[.val (.ref a), .val (.int (i + (1 : Int32))), .val (.ref b), .val (.int i), .val (.int z), .val (.int i), .val (.int (c i.toInt.toNat))]) rfl ?_
        refine k_iinc G X d7_35 (pc' := 38) rfl rfl (z := (i + (1 : Int32))) rfl (l' := #[.val (.ref a), .val (.int (i + (1 : Int32))), .val (.ref b), .val (.int (i + (1 : Int32))), .val (.int z), .val (.int i), .val (.int (c i.toInt.toNat))]) rfl ?_
        refine k_iinc G X d7_38 (pc' := 41) rfl rfl (z := (i + (1 : Int32))) rfl (l' := #[.val (.ref a), .val (.int (i + (1 : Int32))), .val (.ref b), .val (.int (i + (1 : Int32))), .val (.int z), .val (.int (i + (1 : Int32))), .val (.int (c i.toInt.toNat))]) rfl ?_
        refine k_goto G X d7_41 (by decide) (pc' := 3) rfl ?_
        exact ih _ (by rw [hi1]; omega) T h31 (i + (1 : Int32)) (.val (.int (c i.toInt.toNat))) (Or.inr ⟨_, rfl, rfl⟩) A (B.congr fun x hx => by rw [hi1]; exact step_set (f := fun x => Value.int (c x).toInt8.toInt32) (g := g) x i.toInt hi0) KP (by omega) (by omega) rfl X
  exact LOOP _ T h0 (0 : Int32) (.unset) (Or.inl rfl) A (B.congr fun i _ => by simp [show (0 : Int32).toInt = 0 from rfl]) (Keep.refl h0 [b]) (by decide) (by rw [z32]; omega) rfl X
theorem pn_6 : plainFor (⟨"java/lang/StringUTF16", "compress", "([CII)[B"⟩ : MethodName) = true := plainFor_of_name (by first | (simp [plainName, overriddenIn]; done) | decide +kernel)
set_option maxRecDepth 65536 in
set_option maxHeartbeats 40000000 in
theorem str_cmp2 {Z : State} {a0 : Array Value} (hw : HW a0 Z) (a : Addr) (ka : ClassId) (n : Nat) (z : Int32) (c : Nat → Int32) (h0 : Heap) (n0 : Nat) (sf0 : List Addr) (hz : z.toInt = n) (hn : n ≤ 6) (A : Arf Z h0 a ka .char n (fun i => .int (c i))) (O : Old Z n0 h0) (hc : ∀ i, i < n → 0 ≤ (c i).toInt ∧ (c i).toInt ≤ 255) :
    MetW Z consts_1 sf0 (⟨"java/lang/StringUTF16", "compress", "([CII)[B"⟩ : MethodName) jdk_52_method_16_code 6 (some (.array .byte)) [] ({ frames := 1, cells := 1, slots := 6, locals := 18 } : Room) #[(.ref a), (.int (0 : Int32)), (.int z)] h0 n0 (fun v h sf => ∃ b kb, v = some (.ref b) ∧ h0.size ≤ b ∧ Keep h0 h [] ∧ Arf Z h b kb .byte n (fun i => .int (c i).toInt8.toInt32)) := by
  refine k_body (hEW hw) (f := (fun m => mkF m 0 #[.val (.ref a), .val (.int (0 : Int32)), .val (.int z), .unset, .unset, .unset] [])) pn_6 (fun m => by first | (simp [entryFrame, mkF, argsToLocals, Value.category, maxLocals]; done) | rfl) ?_
  intro Γ T G X
  have KP := Keep.refl h0 []
  show Go Γ n0 _ T (mkF Γ.m 0 #[.val (.ref a), .val (.int (0 : Int32)), .val (.int z), .unset, .unset, .unset] [])
  refine k_iloadN G X d6_0 (pc' := 1) rfl rfl ?_
  refine k_newP G X (aty := .byte) (n := n) (cap := 6) (w28 hw) d6_1 (pc' := 3) rfl hz hn (by decide) (by decide) (by decide) (fun T h1 b1 k1 s_b1 E1 A_b1 X => ?_)
  have ne_a_b1 : a ≠ b1 := Nat.ne_of_lt (Nat.lt_of_lt_of_eq A.lt s_b1)
  have ge_b1 : n0 ≤ b1 := Nat.le_trans (Jvm.OwnK.Old_le O) (Nat.le_of_eq s_b1)
  have sz_b1 : h0.size ≤ b1 := Nat.le_trans KP.1 (Nat.le_of_eq s_b1)
  replace A := A.ext E1
  replace O := O.ext E1
  replace KP := KP.ext E1
  replace A_b1 : Arf Z h1 b1 k1 .byte n (fun _ => (.int (0 : Int32))) := A_b1
  refine k_astoreN G X d6_3 (pc' := 4) rfl rfl (l' := #[.val (.ref a), .val (.int (0 : Int32)), .val (.int z), .val (.ref b1), .unset, .unset]) rfl ?_
  refine k_aloadN G X d6_4 (pc' := 5) rfl rfl rfl ?_
  refine k_iloadN G X d6_5 (pc' := 6) rfl rfl ?_
  refine k_aloadN G X d6_6 (pc' := 7) rfl rfl rfl ?_
  refine k_iconst G X d6_7 (pc' := 8) rfl (z := (0 : Int32)) (by decide) ?_
  refine k_iloadN G X d6_8 (pc' := 9) rfl rfl ?_
  refine k_callS G X (argsL := [(.ref a), (.int (0 : Int32)), (.ref b1), (.int (0 : Int32)), (.int z)]) (rest := []) rfl (w29 hw) (w30 hw) (w26 hw) (w31 hw) (by decide) (str_cmp1 hw a b1 ka k1 n z c _ h1 n0 _ hz A A_b1 ne_a_b1 ⟨ge_b1, (List.mem_of_getElem? (i := 0) rfl)⟩ hc) d6_9 pd0 rfl (pc' := 12) rfl rfl (wd := 0) rfl (by decide) (by decide) (by decide) (by decide) (fun T h9 v sf9 X q => ?_)
  replace X := W.drop X
  obtain ⟨rfl, K9, A_b1⟩ := q
  replace A := A.keep K9 (by simp only [List.mem_cons, List.not_mem_nil, or_false, not_or]; exact ne_a_b1)
  replace O := O.keep K9 (allS ge_b1 (all0))
  replace KP := KP.trans K9 (allS (Or.inr sz_b1) (all0))
  show Go Γ n0 _ T (mkF Γ.m 12 #[.val (.ref a), .val (.int (0 : Int32)), .val (.int z), .val (.ref b1), .unset, .unset] [(.int z)])
  refine k_istore G X d6_12 (pc' := 14) rfl (l' := #[.val (.ref a), .val (.int (0 : Int32)), .val (.int z), .val (.ref b1), .val (.int z), .unset]) rfl ?_
  refine k_iload G X d6_14 (pc' := 16) rfl rfl ?_
  refine k_iloadN G X d6_16 (pc' := 17) rfl rfl ?_
  refine k_icmp_eq G X d6_17 (pc' := 57) rfl (by decide) (pc'' := 20) rfl (fun c17 => ?_) (fun c17 => (absurd c17 (by simp)))
  refine k_aloadN G X d6_57 (pc' := 58) rfl rfl rfl ?_
  refine k_reta G X d6_58 (t := (.array .byte)) rfl rfl rfl ?_ (by decide) (by decide)
  exact ⟨b1, k1, rfl, sz_b1, KP, A_b1⟩
theorem pn_13 : plainFor (⟨"java/lang/StringUTF16", "coderFromArrayLen", "([BI)B"⟩ : MethodName) = true := plainFor_of_name (by first | (simp [plainName, overriddenIn]; done) | decide +kernel)
set_option maxRecDepth 65536 in
set_option maxHeartbeats 40000000 in
theorem str_cod {Z : State} {a0 : Array Value} (hw : HW a0 Z) (b : Addr) (kb : ClassId) (n : Nat) (z : Int32) (f : Nat → Value) (h0 : Heap) (n0 : Nat) (sf0 : List Addr) (hz : z.toInt = n) (B : Arf Z h0 b kb .byte n f) :
    MetW Z consts_1 sf0 (⟨"java/lang/StringUTF16", "coderFromArrayLen", "([BI)B"⟩ : MethodName) jdk_52_method_15_code 2 (some .byte) [] ({ frames := 0, cells := 0, slots := 0, locals := 0 } : Room) #[(.ref b), (.int z)] h0 n0 (fun v h sf => v = some (.int 0) ∧ h = h0) := by
  refine k_body (hEW hw) (f := (fun m => mkF m 0 #[.val (.ref b), .val (.int z)] [])) pn_13 (fun m => by first | (simp [entryFrame, mkF, argsToLocals, Value.category, maxLocals]; done) | rfl) ?_
  intro Γ T G X
  show Go Γ n0 _ T (mkF Γ.m 0 #[.val (.ref b), .val (.int z)] [])
  refine k_iloadN G X d13_0 (pc' := 1) rfl rfl ?_
  refine k_aloadN G X d13_1 (pc' := 2) rfl rfl rfl ?_
  refine k_alen G X (z := z) B hz d13_2 (pc' := 3) rfl ?_
  refine k_isub G X d13_3 (pc' := 4) rfl rfl ?_
  rw [show z - z = (0 : Int32) from Int32.sub_self z]
  refine k_bipush G X d13_4 (pc' := 6) rfl (z := (31 : Int32)) (by decide) ?_
  refine k_iushr G X d13_6 (pc' := 7) rfl (z := (0 : Int32)) (by decide) ?_
  refine k_i2b G X d13_7 (pc' := 8) rfl (z := (0 : Int32)) (by decide) ?_
  refine k_retb G X d13_8 (t := .byte) rfl (by simp) rfl ?_ (by decide) (by decide)
  exact ⟨rfl, rfl⟩
theorem pn_4 : plainFor (⟨"java/lang/String", "<init>", "([CIILjava/lang/Void;)V"⟩ : MethodName) = true := plainFor_of_name (by first | (simp [plainName, overriddenIn]; done) | decide +kernel)
set_option maxRecDepth 65536 in
set_option maxHeartbeats 40000000 in
theorem str_init4 {Z : State} {a0 : Array Value} (hw : HW a0 Z) (s a : Addr) (ka : ClassId) (n : Nat) (z cs : Int32) (c : Nat → Int32) (h0 : Heap) (n0 : Nat) (sf0 : List Addr) (hz : z.toInt = n) (hn : n ≤ 6) (hn1 : 1 ≤ n) (E : Exa Z h0 s "java/lang/String") (FV : Fld Z h0 s "java/lang/String" "value" "[B" .null) (FC : Fld Z h0 s "java/lang/String" "coder" "B" (.int 0)) (A : Arf Z h0 a ka .char n (fun i => .int (c i))) (ne_s_a : s ≠ a) (gm_s : n0 ≤ s ∧ s ∈ sf0) (O : Old Z n0 h0) (S_CS : Sta Z h0 "java/lang/String" "COMPACT_STRINGS" "Z" (.int cs)) (hcs : cs ≠ 0) (hc : ∀ i, i < n → 0 ≤ (c i).toInt ∧ (c i).toInt ≤ 255) :
    MetW Z consts_1 sf0 (⟨"java/lang/String", "<init>", "([CIILjava/lang/Void;)V"⟩ : MethodName) jdk_42_method_149_code 6 none [] ({ frames := 2, cells := 1, slots := 6, locals := 37 } : Room) #[(.ref s), (.ref a), (.int (0 : Int32)), (.int z), .null] h0 n0 (fun v h sf => v = none ∧ Keep h0 h [s] ∧ ∃ b kb, h0.size ≤ b ∧ Str Z h s b kb n (fun i => (c i).toInt8.toInt32)) := by
  refine k_body (hEW hw) (f := (fun m => mkF m 0 #[.val (.ref s), .val (.ref a), .val (.int (0 : Int32)), .val (.int z), .val .null, .unset] [])) pn_4 (fun m => by first | (simp [entryFrame, mkF, argsToLocals, Value.category, maxLocals]; done) | rfl) ?_
  intro Γ T G X
  have ge_s := gm_s.1
  have KP := Keep.refl h0 [s]
  have E0 := E; have A0 := A
  show Go Γ n0 _ T (mkF Γ.m 0 #[.val (.ref s), .val (.ref a), .val (.int (0 : Int32)), .val (.int z), .val .null, .unset] [])
  refine k_aloadN G X d4_0 (pc' := 1) rfl rfl rfl ?_
  refine k_initO G X (w20 hw) (w21 hw) (w22 hw) d4_1 (pc' := 4) rfl rfl (by decide) (wd := 0) rfl (by decide) (fun T X => ?_)
  refine k_iloadN G X d4_4 (pc' := 5) rfl rfl ?_
  refine k_if_ne G X d4_5 (pc' := 27) rfl (by decide) (pc'' := 8) rfl (fun c5 => ?_) (fun c5 => (absurd c5 (by intro q; rw [q, z32] at hz; omega)))
  refine k_getS G X (host := "") (Or.inl (w23 hw)) Via.refl S_CS d4_27 (pc' := 30) rfl (fun T X => ?_)
  refine k_if_eq G X d4_30 (pc' := 58) rfl (by decide) (pc'' := 33) rfl (fun c30 => (absurd c30 hcs)) (fun c30 => ?_)
  refine k_aloadN G X d4_33 (pc' := 34) rfl rfl rfl ?_
  refine k_iloadN G X d4_34 (pc' := 35) rfl rfl ?_
  refine k_iloadN G X d4_35 (pc' := 36) rfl rfl ?_
  refine k_callS G X (argsL := [(.ref a), (.int (0 : Int32)), (.int z)]) (rest := []) rfl (w24 hw) (w25 hw) (w26 hw) (w27 hw) (by decide) (str_cmp2 hw a ka n z c h0 n0 _ hz hn A O hc) d4_36 pd1 rfl (pc' := 39) rfl rfl (wd := 0) rfl (by decide) (by decide) (by decide) (by decide) (fun T h36 v sf36 X q => ?_)
  replace X := W.drop X
  obtain ⟨b, kb, rfl, sz_b, K36, B⟩ := q
  replace S_CS := Jvm.OwnK.Sta_keep S_CS K36
  replace E := E.keep K36
  replace FV := FV.keep K36 nin0
  replace FC := FC.keep K36 nin0
  replace A := A.keep K36 nin0
  replace O := O.keep K36 (all0)
  replace KP := KP.trans K36 (all0)
  show Go Γ n0 _ T (mkF Γ.m 39 #[.val (.ref s), .val (.ref a), .val (.int (0 : Int32)), .val (.int z), .val .null, .unset] [(.ref b)])
  refine k_astore G X d4_39 (pc' := 41) rfl rfl (l' := #[.val (.ref s), .val (.ref a), .val (.int (0 : Int32)), .val (.int z), .val .null, .val (.ref b)]) rfl ?_
  have ne_s_b : s ≠ b := Nat.ne_of_lt (Nat.lt_of_lt_of_le E0.lt sz_b)
  have ne_a_b : a ≠ b := Nat.ne_of_lt (Nat.lt_of_lt_of_le A0.lt sz_b)
  refine k_aloadN G X d4_41 (pc' := 42) rfl rfl rfl ?_
  refine k_aload G X d4_42 (pc' := 44) rfl rfl rfl ?_
  refine k_iloadN G X d4_44 (pc' := 45) rfl rfl ?_
  refine k_callS G X (argsL := [(.ref b), (.int z)]) (rest := [(.ref s)]) rfl (w51 hw) (w52 hw) (w26 hw) (w53 hw) (by decide) (str_cod hw b kb n z _ h36 n0 _ hz B) d4_45 pd2 rfl (pc' := 48) rfl rfl (wd := 1) rfl (by decide) (by decide) (by decide) (by decide) (fun T h45 v sf45 X q => ?_)
  replace X := W.drop X
  obtain ⟨rfl, e45⟩ := q
  replace X := X.eq e45
  show Go Γ n0 _ T (mkF Γ.m 48 #[.val (.ref s), .val (.ref a), .val (.int (0 : Int32)), .val (.int z), .val .null, .val (.ref b)] [(.int (0 : Int32)), (.ref s)])
  refine k_putFN G X (w54 hw) Via.refl FC E (Or.inr ⟨(w55 hw), rfl, rfl⟩) (w11 hw) (ty := .byte) (v' := (.int (0 : Int32))) (by decide) rfl rfl ge_s (List.mem_append_right [] gm_s.2) d4_48 (pc' := 51) rfl (fun T h48 W48 X => ?_)
  replace E := E.wr W48
  replace FV := FV.other W48 (Or.inr (slot_ne (Or.inr (w57 hw)) (Or.inr (w55 hw)) (by decide) (t := (.array .byte)) (t' := .byte) (by decide) (by decide)))
  replace FC := FC.same W48
  replace A := A.other W48 (Ne.symm ne_s_a)
  replace O := O.wr W48 ge_s
  replace KP := KP.wr W48 (Or.inl (List.mem_of_getElem? (i := 0) rfl))
  replace S_CS := S_CS.wr W48
  replace B := B.other W48 (Ne.symm ne_s_b)
  refine k_aloadN G X d4_51 (pc' := 52) rfl rfl rfl ?_
  refine k_aload G X d4_52 (pc' := 54) rfl rfl rfl ?_
  refine k_putF G X (host := "") (Or.inl (w56 hw)) Via.refl FV E (Or.inr ⟨(w57 hw), rfl, rfl⟩) (w11 hw) (ty := (.array .byte)) (by decide) rfl rfl ge_s (List.mem_append_right [] gm_s.2) d4_54 (pc' := 57) rfl (fun T h54 W54 X => ?_)
  replace E := E.wr W54
  replace FV := FV.same W54
  replace FC := FC.other W54 (Or.inr (slot_ne (Or.inr (w55 hw)) (Or.inr (w57 hw)) (by decide) (t := .byte) (t' := (.array .byte)) (by decide) (by decide)))
  replace A := A.other W54 (Ne.symm ne_s_a)
  replace O := O.wr W54 ge_s
  replace KP := KP.wr W54 (Or.inl (List.mem_of_getElem? (i := 0) rfl))
  replace S_CS := S_CS.wr W54
  replace B := B.other W54 (Ne.symm ne_s_b)
  refine k_retv G X d4_57 rfl ?_ (by decide) (by decide)
  exact ⟨rfl, KP, b, kb, sz_b, E, FC, FV, B⟩
theorem pn_3 : plainFor (⟨"java/lang/String", "<init>", "([C)V"⟩ : MethodName) = true := plainFor_of_name (by first | (simp [plainName, overriddenIn]; done) | decide +kernel)
set_option maxRecDepth 65536 in
set_option maxHeartbeats 40000000 in
theorem str_init {Z : State} {a0 : Array Value} (hw : HW a0 Z) (s a : Addr) (ka : ClassId) (n : Nat) (z cs : Int32) (c : Nat → Int32) (h0 : Heap) (n0 : Nat) (sf0 : List Addr) (hz : z.toInt = n) (hn : n ≤ 6) (hn1 : 1 ≤ n) (E : Exa Z h0 s "java/lang/String") (FV : Fld Z h0 s "java/lang/String" "value" "[B" .null) (FC : Fld Z h0 s "java/lang/String" "coder" "B" (.int 0)) (A : Arf Z h0 a ka .char n (fun i => .int (c i))) (ne_s_a : s ≠ a) (gm_s : n0 ≤ s ∧ s ∈ sf0) (O : Old Z n0 h0) (S_CS : Sta Z h0 "java/lang/String" "COMPACT_STRINGS" "Z" (.int cs)) (hcs : cs ≠ 0) (hc : ∀ i, i < n → 0 ≤ (c i).toInt ∧ (c i).toInt ≤ 255) :
    MetW Z consts_1 sf0 (⟨"java/lang/String", "<init>", "([C)V"⟩ : MethodName) jdk_42_method_3_code 2 none [] ({ frames := 3, cells := 1, slots := 6, locals := 54 } : Room) #[(.ref s), (.ref a)] h0 n0 (fun v h sf => v = none ∧ Keep h0 h [s] ∧ ∃ b kb, h0.size ≤ b ∧ Str Z h s b kb n (fun i => (c i).toInt8.toInt32)) := by
  refine k_body (hEW hw) (f := (fun m => mkF m 0 #[.val (.ref s), .val (.ref a)] [])) pn_3 (fun m => by first | (simp [entryFrame, mkF, argsToLocals, Value.category, maxLocals]; done) | rfl) ?_
  intro Γ T G X
  have ge_s := gm_s.1
  have KP := Keep.refl h0 [s]
  show Go Γ n0 _ T (mkF Γ.m 0 #[.val (.ref s), .val (.ref a)] [])
  refine k_aloadN G X d3_0 (pc' := 1) rfl rfl rfl ?_
  refine k_aloadN G X d3_1 (pc' := 2) rfl rfl rfl ?_
  refine k_iconst G X d3_2 (pc' := 3) rfl (z := (0 : Int32)) (by decide) ?_
  refine k_aloadN G X d3_3 (pc' := 4) rfl rfl rfl ?_
  refine k_alen G X (z := z) A hz d3_4 (pc' := 5) rfl ?_
  refine k_anull G X d3_5 (pc' := 6) rfl ?_
  refine k_callI G X (argsL := [(.ref a), (.int (0 : Int32)), (.int z), .null]) (rest := []) rfl rfl (w16 hw) (w17 hw) (w12 hw) (w19 hw) (by decide) (str_init4 hw s a ka n z cs c h0 n0 _ hz hn hn1 E FV FC A ne_s_a ⟨ge_s, (List.mem_append_right [] gm_s.2)⟩ O S_CS hcs hc) d3_6 pd3 rfl (pc' := 9) rfl rfl (wd := 0) rfl (by decide) (by decide) (by decide) (by decide) (fun T h6 v sf6 X q => ?_)
  replace X := W.drop X
  obtain ⟨rfl, q⟩ := q
  show Go Γ n0 _ T (mkF Γ.m 9 #[.val (.ref s), .val (.ref a)] [])
  refine k_retv G X d3_9 rfl ?_ (by decide) (by decide)
  exact ⟨rfl, q⟩
theorem pn_10 : plainFor (⟨"java/lang/StringUTF16", "newBytesLength", "(I)I"⟩ : MethodName) = true := plainFor_of_name (by first | (simp [plainName, overriddenIn]; done) | decide +kernel)
set_option maxRecDepth 65536 in
set_option maxHeartbeats 40000000 in
theorem u_nbl {Z : State} {a0 : Array Value} (hw : HW a0 Z) (z z2 : Int32) (n : Nat) (h0 : Heap) (n0 : Nat) (sf0 : List Addr) (hz : z.toInt = n) (hz2 : z2.toInt = (2 * n : Nat)) (hn : n ≤ 6) :
    MetW Z consts_1 sf0 (⟨"java/lang/StringUTF16", "newBytesLength", "(I)I"⟩ : MethodName) jdk_52_method_3_code 1 (some .int) [] ({ frames := 0, cells := 0, slots := 0, locals := 0 } : Room) #[(.int z)] h0 n0 (fun v h sf => v = some (.int z2) ∧ h = h0) := by
  refine k_body (hEW hw) (f := (fun m => mkF m 0 #[.val (.int z)] [])) pn_10 (fun m => by first | (simp [entryFrame, mkF, argsToLocals, Value.category, maxLocals]; done) | rfl) ?_
  intro Γ T G X
  have e1 : (1073741823 : Int32).toInt = 1073741823 := rfl
  show Go Γ n0 _ T (mkF Γ.m 0 #[.val (.int z)] [])
  refine k_iloadN G X d10_0 (pc' := 1) rfl rfl ?_
  refine k_if_ge G X d10_1 (pc' := 12) rfl (by decide) (pc'' := 4) rfl (fun c1 => ?_) (fun c1 => (absurd c1 (by omega)))
  refine k_iloadN G X d10_12 (pc' := 13) rfl rfl ?_
  refine k_ldcI G X (w41 hw) d10_13 (pc' := 15) rfl ?_
  refine k_icmp_lt G X d10_15 (pc' := 55) rfl (by decide) (pc'' := 18) rfl (fun c15 => ?_) (fun c15 => (absurd c15 (by omega)))
  refine k_iloadN G X d10_55 (pc' := 56) rfl rfl ?_
  refine k_iconst G X d10_56 (pc' := 57) rfl (z := (1 : Int32)) (by decide) ?_
  refine k_ishl G X d10_57 (pc' := 58) rfl rfl ?_
  rw [show z <<< ((1 : Int32) &&& 31) = z2 from of_toInt (by rw [shl1 z n hz (by omega), hz2])]
  refine k_reti G X d10_58 rfl ?_ (by decide) (by decide)
  exact ⟨rfl, rfl⟩
theorem pn_9 : plainFor (⟨"java/lang/StringUTF16", "newBytesFor", "(I)[B"⟩ : MethodName) = true := plainFor_of_name (by first | (simp [plainName, overriddenIn]; done) | decide +kernel)
set_option maxRecDepth 65536 in
set_option maxHeartbeats 40000000 in
theorem u_nbf {Z : State} {a0 : Array Value} (hw : HW a0 Z) (z z2 : Int32) (n : Nat) (h0 : Heap) (n0 : Nat) (sf0 : List Addr) (hz : z.toInt = n) (hz2 : z2.toInt = (2 * n : Nat)) (hn : n ≤ 6) (O : Old Z n0 h0) :
    MetW Z consts_1 sf0 (⟨"java/lang/StringUTF16", "newBytesFor", "(I)[B"⟩ : MethodName) jdk_52_method_2_code 1 (some (.array .byte)) [] ({ frames := 1, cells := 1, slots := 12, locals := 12 } : Room) #[(.int z)] h0 n0 (fun v h sf => ∃ b k, v = some (.ref b) ∧ h0.size ≤ b ∧ Keep h0 h [] ∧ Arf Z h b k .byte (2 * n) (fun _ => .int 0) ∧ b ∈ sf) := by
  refine k_body (hEW hw) (f := (fun m => mkF m 0 #[.val (.int z)] [])) pn_9 (fun m => by first | (simp [entryFrame, mkF, argsToLocals, Value.category, maxLocals]; done) | rfl) ?_
  intro Γ T G X
  have KP := Keep.refl h0 []
  show Go Γ n0 _ T (mkF Γ.m 0 #[.val (.int z)] [])
  refine k_iloadN G X d9_0 (pc' := 1) rfl rfl ?_
  refine k_callS G X (argsL := [(.int z)]) (rest := []) rfl (w38 hw) (w39 hw) (w26 hw) (w40 hw) (by decide) (u_nbl hw z z2 n h0 n0 _ hz hz2 hn) d9_1 pd4 rfl (pc' := 4) rfl rfl (wd := 0) rfl (by decide) (by decide) (by decide) (by decide) (fun T h1 v sf1 X q => ?_)
  replace X := W.drop X
  obtain ⟨rfl, e1⟩ := q
  replace X := X.eq e1
  show Go Γ n0 _ T (mkF Γ.m 4 #[.val (.int z)] [(.int z2)])
  refine k_newP G X (aty := .byte) (n := (2 * n)) (cap := 12) (w28 hw) d9_4 (pc' := 6) rfl hz2 (by omega) (by decide) (by decide) (by decide) (fun T h4 b4 k4 s_b4 E4 A_b4 X => ?_)
  have ge_b4 : n0 ≤ b4 := Nat.le_trans (Jvm.OwnK.Old_le O) (Nat.le_of_eq s_b4)
  have sz_b4 : h0.size ≤ b4 := Nat.le_trans KP.1 (Nat.le_of_eq s_b4)
  replace O := O.ext E4
  replace KP := KP.ext E4
  replace A_b4 : Arf Z h4 b4 k4 .byte (2 * n) (fun _ => (.int (0 : Int32))) := A_b4
  refine k_reta G X d9_6 (t := (.array .byte)) rfl rfl rfl ?_ (by decide) (by decide)
  exact ⟨b4, k4, rfl, sz_b4, KP, A_b4, (List.mem_of_getElem? (i := 0) rfl)⟩
theorem pn_8 : plainFor (⟨"java/lang/StringUTF16", "toBytes", "([CII)[B"⟩ : MethodName) = true := plainFor_of_name (by first | (simp [plainName, overriddenIn]; done) | decide +kernel)
set_option maxRecDepth 65536 in
set_option maxHeartbeats 40000000 in
theorem u_tob {Z : State} {a0 : Array Value} (hw : HW a0 Z) (a : Addr) (ka : ClassId) (n : Nat) (z z2 : Int32) (c : Nat → Int32) (h0 : Heap) (n0 : Nat) (sf0 : List Addr) (hz : z.toInt = n) (hz2 : z2.toInt = (2 * n : Nat)) (hn : n ≤ 6) (A : Arf Z h0 a ka .char n (fun i => .int (c i))) (O : Old Z n0 h0) (S_AD : Sta Z h0 "java/lang/StringUTF16" "$assertionsDisabled" "Z" (.int 1)) (S_HI : Sta Z h0 "java/lang/StringUTF16" "HI_BYTE_SHIFT" "I" (.int 0)) (S_LO : Sta Z h0 "java/lang/StringUTF16" "LO_BYTE_SHIFT" "I" (.int 8)) :
    MetW Z consts_1 sf0 (⟨"java/lang/StringUTF16", "toBytes", "([CII)[B"⟩ : MethodName) jdk_52_method_14_code 5 (some (.array .byte)) [] ({ frames := 2, cells := 1, slots := 12, locals := 24 } : Room) #[(.ref a), (.int (0 : Int32)), (.int z)] h0 n0 (fun v h sf => ∃ b k, v = some (.ref b) ∧ h0.size ≤ b ∧ Keep h0 h [] ∧ Arf Z h b k .byte (2 * n) (fun i => .int (ub c i))) := by
  refine k_body (hEW hw) (f := (fun m => mkF m 0 #[.val (.ref a), .val (.int (0 : Int32)), .val (.int z), .unset, .unset] [])) pn_8 (fun m => by first | (simp [entryFrame, mkF, argsToLocals, Value.category, maxLocals]; done) | rfl) ?_
  intro Γ T G X
  have KP := Keep.refl h0 []
  show Go Γ n0 _ T (mkF Γ.m 0 #[.val (.ref a), .val (.int (0 : Int32)), .val (.int z), .unset, .unset] [])
  refine k_iloadN G X d8_0 (pc' := 1) rfl rfl ?_
  refine k_callS G X (argsL := [(.int z)]) (rest := []) rfl (w35 hw) (w36 hw) (w26 hw) (w37 hw) (by decide) (u_nbf hw z z2 n h0 n0 _ hz hz2 hn O) d8_1 pd5 rfl (pc' := 4) rfl rfl (wd := 0) rfl (by decide) (by decide) (by decide) (by decide) (fun T h1 v sf1 X q => ?_)
  obtain ⟨b, kq, rfl, sz_b, K1, B, hmb⟩ := q
  replace X := W.only X hmb
  have ge_b : n0 ≤ b := Nat.le_trans (Old_le O) sz_b
  have ne_a_b : a ≠ b := Nat.ne_of_lt (Nat.lt_of_lt_of_le A.lt sz_b)
  replace S_AD := Jvm.OwnK.Sta_keep S_AD K1
  replace S_HI := Jvm.OwnK.Sta_keep S_HI K1
  replace S_LO := Jvm.OwnK.Sta_keep S_LO K1
  replace A := A.keep K1 nin0
  replace O := O.keep K1 (all0)
  replace KP := KP.trans K1 (all0)
  show Go Γ n0 _ T (mkF Γ.m 4 #[.val (.ref a), .val (.int (0 : Int32)), .val (.int z), .unset, .unset] [(.ref b)])
  refine k_astoreN G X d8_4 (pc' := 5) rfl rfl (l' := #[.val (.ref a), .val (.int (0 : Int32)), .val (.int z), .val (.ref b), .unset]) rfl ?_
  refine k_iconst G X d8_5 (pc' := 6) rfl (z := (0 : Int32)) (by decide) ?_
  refine k_istore G X d8_6 (pc' := 8) rfl (l' := #[.val (.ref a), .val (.int (0 : Int32)), .val (.int z), .val (.ref b), .val (.int (0 : Int32))]) rfl ?_
  have LOOP : ∀ (k : Nat) (T : State) (hL : Heap) (i : Int32), (Arf Z hL a ka .char n (fun i => .int (c i))) → (Arf Z hL b kq .byte (2 * n) (fun x => if x < 2 * i.toInt.toNat then .int (ub c x) else .int 0)) → (Old Z n0 hL) → (Keep h0 hL []) → (Sta Z hL "java/lang/StringUTF16" "$assertionsDisabled" "Z" (.int 1)) → (Sta Z hL "java/lang/StringUTF16" "HI_BYTE_SHIFT" "I" (.int 0)) → (Sta Z hL "java/lang/StringUTF16" "LO_BYTE_SHIFT" "I" (.int 8)) → (0 ≤ i.toInt) → (i.toInt ≤ n) → n - i.toInt.toNat = k → W Γ n0 T hL 1 12 (b :: sf0) → Go Γ n0 (fun v h sf => ∃ b k, v = some (.ref b) ∧ h0.size ≤ b ∧ Keep h0 h [] ∧ Arf Z h b k .byte (2 * n) (fun i => .int (ub c i))) T (mkF Γ.m 8 #[.val (.ref a), .val (.int i), .val (.int z), .val (.ref b), .val (.int i)] []) := by
    intro k
    induction k using Nat.strongRecOn with
    | _ k ih =>
      intro T hL i A B O KP S_AD S_HI S_LO hi0 hin hk X
      refine k_iload G X d8_8 (pc' := 10) rfl rfl ?_
      refine k_iloadN G X d8_10 (pc' := 11) rfl rfl ?_
      refine k_icmp_ge G X d8_11 (pc' := 32) rfl (by decide) (pc'' := 14) rfl (fun c11 => ?_) (fun c11 => ?_)
      · refine k_aloadN G X d8_32 (pc' := 33) rfl rfl rfl ?_
        refine k_reta G X d8_33 (t := (.array .byte)) rfl rfl rfl ?_ (by decide) (by decide)
        exact ⟨b, kq, rfl, sz_b, KP, B.congr fun x hx => by rw [if_pos (by omega)]⟩
      · have hlt : i.toInt < n := by omega
        have hi1 : (i + (1 : Int32)).toInt = i.toInt + 1 := iadd_toInt (by rw [show (1 : Int32).toInt = 1 from rfl]; omega) (by rw [show (1 : Int32).toInt = 1 from rfl]; omega)
        refine k_aloadN G X d8_14 (pc' := 15) rfl rfl rfl ?_
        refine k_iload G X d8_15 (pc' := 17) rfl rfl ?_
        refine k_aloadN G X d8_17 (pc' := 18) rfl rfl rfl ?_
        refine k_iloadN G X d8_18 (pc' := 19) rfl rfl ?_
        refine k_caload G X (i := i.toInt.toNat) (v := (.int (c i.toInt.toNat))) A (by omega) (by omega) rfl d8_19 (pc' := 20) rfl ?_
        refine k_callS G X (argsL := [(.ref b), (.int i), (.int (c i.toInt.toNat))]) (rest := []) rfl (w42 hw) (w43 hw) (w26 hw) (w44 hw) (by decide) (u_put hw b kq n i.toInt.toNat i (c i.toInt.toNat) _ hL n0 _ B ⟨ge_b, (List.mem_of_getElem? (i := 0) rfl)⟩ (by omega) (by omega) (by omega) S_AD S_HI S_LO) d8_20 pd6 rfl (pc' := 23) rfl rfl (wd := 0) rfl (by decide) (by decide) (by decide) (by decide) (fun T h20 v sf20 X q => ?_)
        replace X := W.drop X
        obtain ⟨rfl, K20, B'⟩ := q
        replace S_AD := Sta_keepL S_AD K20 (allS (Pln_arf B) (all0))
        replace S_HI := Sta_keepL S_HI K20 (allS (Pln_arf B) (all0))
        replace S_LO := Sta_keepL S_LO K20 (allS (Pln_arf B) (all0))
        replace A := A.keep K20 (by simp only [List.mem_cons, List.not_mem_nil, or_false, not_or]; exact ne_a_b)
        replace O := O.keep K20 (allS ge_b (all0))
        replace KP := KP.trans K20 (allS (Or.inr sz_b) (all0))
        have B := B'
        show Go Γ n0 _ T (mkF Γ.m 23 #[.val (.ref a), .val (.int i), .val (.int z), .val (.ref b), .val (.int i)] [])
        refine k_iinc G X d8_23 (pc' := 26) rfl rfl (z := (i + (1 : Int32))) rfl (l' := #[.val (.ref a), .val (.int (i + (1 : Int32))), .val (.int z), .val (.ref b), .val (.int i)]) rfl ?_
        refine k_iinc G X d8_26 (pc' := 29) rfl rfl (z := (i + (1 : Int32))) rfl (l' := #[.val (.ref a), .val (.int (i + (1 : Int32))), .val (.int z), .val (.ref b), .val (.int (i + (1 : Int32)))]) rfl ?_
        refine k_goto G X d8_29 (by decide) (pc' := 8) rfl ?_
        exact ih _ (by rw [hi1]; omega) T h20 (i + (1 : Int32)) A (B.congr fun x _ => by have e := ub_step (c := c) (g := fun _ => Value.int 0) x i.toInt.toNat; rw [show i.toInt.toNat + 1 = (i + (1 : Int32)).toInt.toNat by rw [hi1]; omega] at e; exact e) O KP S_AD S_HI S_LO (by omega) (by omega) rfl X
  exact LOOP _ T h1 (0 : Int32) A (B.congr fun x _ => by rw [if_neg (by rw [z32]; omega)]) O KP S_AD S_HI S_LO (by decide) (by rw [z32]; omega) rfl X
set_option maxRecDepth 65536 in
set_option maxHeartbeats 40000000 in
theorem u_cmp1 {Z : State} {a0 : Array Value} (hw : HW a0 Z) (a b : Addr) (ka kb : ClassId) (n j : Nat) (z : Int32) (c : Nat → Int32) (g : Nat → Value) (h0 : Heap) (n0 : Nat) (sf0 : List Addr) (hz : z.toInt = n) (A : Arf Z h0 a ka .char n (fun i => .int (c i))) (B : Arf Z h0 b kb .byte n g) (ne_a_b : a ≠ b) (gm_b : n0 ≤ b ∧ b ∈ sf0) (hj : j < n) (hcj : 255 < (c j).toInt) (hlo : ∀ i, i < j → (c i).toInt ≤ 255) :
    MetW Z consts_1 sf0 (⟨"java/lang/StringUTF16", "compress", "([CI[BII)I"⟩ : MethodName) jdk_52_method_21_code 7 (some .int) [] ({ frames := 0, cells := 0, slots := 0, locals := 0 } : Room) #[(.ref a), (.int (0 : Int32)), (.ref b), (.int (0 : Int32)), (.int z)] h0 n0 (fun v h sf => ∃ r : Int32, v = some (.int r) ∧ r.toInt = j ∧ Keep h0 h [b]) := by
  refine k_body (hEW hw) (f := (fun m => mkF m 0 #[.val (.ref a), .val (.int (0 : Int32)), .val (.ref b), .val (.int (0 : Int32)), .val (.int z), .unset, .unset] [])) pn_7 (fun m => by first | (simp [entryFrame, mkF, argsToLocals, Value.category, maxLocals]; done) | rfl) ?_
  intro Γ T G X
  have ge_b := gm_b.1
  show Go Γ n0 _ T (mkF Γ.m 0 #[.val (.ref a), .val (.int (0 : Int32)), .val (.ref b), .val (.int (0 : Int32)), .val (.int z), .unset, .unset] [])
  refine k_iconst G X d7_0 (pc' := 1) rfl (z := (0 : Int32)) (by decide) ?_
  refine k_istore G X d7_1 (pc' := 3) rfl (l' := #[.val (.ref a), .val (.int (0 : Int32)), .val (.ref b), .val (.int (0 : Int32)), .val (.int z), .val (.int (0 : Int32)), .unset]) rfl ?_
  have LOOP : ∀ (k : Nat) (T : State) (hL : Heap) (i : Int32) (s6 : Slot), ((s6 = .unset ∨ ∃ w, s6 = .val w ∧ w.category = 1)) → (Arf Z hL a ka .char n (fun i => .int (c i))) → (∃ F, Arf Z hL b kb .byte n F) → (Keep h0 hL [b]) → (0 ≤ i.toInt) → (i.toInt ≤ j) → n - i.toInt.toNat = k → W Γ n0 T hL 0 0 (sf0) → Go Γ n0 (fun v h sf => ∃ r : Int32, v = some (.int r) ∧ r.toInt = j ∧ Keep h0 h [b]) T (mkF Γ.m 3 #[.val (.ref a), .val (.int i), .val (.ref b), .val (.int i), .val (.int z), .val (.int i), s6] []) := by
    intro k
    induction k using Nat.strongRecOn with
    | _ k ih =>
      intro T hL i s6 h_s6 A B KP hi0 hin hk X
      obtain ⟨F, B⟩ := B
      refine k_iload G X d7_3 (pc' := 5) rfl rfl ?_
      refine k_iload G X d7_5 (pc' := 7) rfl rfl ?_
      refine k_icmp_ge G X d7_7 (pc' := 44) rfl (by decide) (pc'' := 10) rfl (fun c7 => (absurd c7 (by omega))) (fun c7 => ?_)
      have hlt : i.toInt < n := by omega
      have hi1 : (i + (1 : Int32)).toInt = i.toInt + 1 := iadd_toInt (by rw [show (1 : Int32).toInt = 1 from rfl]; omega) (by rw [show (1 : Int32).toInt = 1 from rfl]; have := A.size_lt; omega)
      refine k_aloadN G X d7_10 (pc' := 11) rfl rfl rfl ?_
      refine k_iloadN G X d7_11 (pc' := 12) rfl rfl ?_
      refine k_caload G X (i := i.toInt.toNat) (v := (.int (c i.toInt.toNat))) A (by omega) (by omega) rfl d7_12 (pc' := 13) rfl ?_
      refine k_istoreS G X d7_13 (pc' := 15) rfl rfl h_s6 (l' := #[.val (.ref a), .val (.int i), .val (.ref b), .val (.int i), .val (.int z), .val (.int i), .val (.int (c i.toInt.toNat))]) rfl ?_
      refine k_iload G X d7_15 (pc' := 17) rfl rfl ?_
      refine k_sipush G X d7_17 (pc' := 20) rfl (z := (255 : Int32)) (by decide) ?_
      refine k_icmp_le G X d7_20 (pc' := 26) rfl (by decide) (pc'' := 23) rfl (fun c20 => ?_) (fun c20 => ?_)
      · refine k_aloadN G X d7_26 (pc' := 27) rfl rfl rfl ?_
        refine k_iloadN G X d7_27 (pc' := 28) rfl rfl ?_
        refine k_iload G X d7_28 (pc' := 30) rfl rfl ?_
        refine k_i2b G X d7_30 (pc' := 31) rfl rfl ?_
        refine k_bastore G X (i := i.toInt.toNat) (z := (c i.toInt.toNat).toInt8.toInt32) B (by omega) (by omega) (by simp [nar]) ge_b (List.mem_append_right [] gm_b.2) d7_31 (pc' := 32) rfl (fun T h31 W31 B X => ?_)
        replace A := A.other W31 ne_a_b
        replace KP := KP.wr W31 (Or.inl (List.mem_of_getElem? (i := 0) rfl))
        refine k_iinc G X d7_32 (pc' := 35) rfl rfl (z := (i + (1 : Int32))) rfl (l' := #[.val (.ref a), .val (.int (i + (1 : Int32))), .val (.ref b), .val (.int i), .val (.int z), .val (.int i), .val (.int (c i.toInt.toNat))]) rfl ?_
        refine k_iinc G X d7_35 (pc' := 38) rfl rfl (z := (i + (1 : Int32))) rfl (l' := #[.val (.ref a), .val (.int (i + (1 : Int32))), .val (.ref b), .val (.int (i + (1 : Int32))), .val (.int z), .val (.int i), .val (.int (c i.toInt.toNat))]) rfl ?_
        refine k_iinc G X d7_38 (pc' := 41) rfl rfl (z := (i + (1 : Int32))) rfl (l' := #[.val (.ref a), .val (.int (i + (1 : Int32))), .val (.ref b), .val (.int (i + (1 : Int32))), .val (.int z), .val (.int (i + (1 : Int32))), .val (.int (c i.toInt.toNat))]) rfl ?_
        refine k_goto G X d7_41 (by decide) (pc' := 3) rfl ?_
        exact ih _ (by rw [hi1]; omega) T h31 (i + (1 : Int32)) (.val (.int (c i.toInt.toNat))) (Or.inr ⟨_, rfl, rfl⟩) A ⟨_, B⟩ KP (by omega) (by rcases Nat.lt_or_ge i.toInt.toNat j with q | q; omega; exact absurd c20 (by rw [show i.toInt.toNat = j by omega, show (255 : Int32).toInt = 255 from rfl]; omega)) rfl X
      · refine k_iload G X d7_23 (pc' := 25) rfl rfl ?_
        refine k_reti G X d7_25 rfl ?_ (by decide) (by decide)
        refine ⟨_, rfl, ?_, KP⟩
        rw [show (255 : Int32).toInt = 255 from rfl] at c20
        rcases Nat.lt_or_ge i.toInt.toNat j with q | q
        · have := hlo _ q; omega
        · omega
  exact LOOP _ T h0 (0 : Int32) (.unset) (Or.inl rfl) A ⟨_, B⟩ (Keep.refl h0 [b]) (by decide) (by rw [z32]; omega) rfl X
set_option maxRecDepth 65536 in
set_option maxHeartbeats 40000000 in
theorem u_cmp2 {Z : State} {a0 : Array Value} (hw : HW a0 Z) (a : Addr) (ka : ClassId) (n j : Nat) (z z2 : Int32) (c : Nat → Int32) (h0 : Heap) (n0 : Nat) (sf0 : List Addr) (hz : z.toInt = n) (hz2 : z2.toInt = (2 * n : Nat)) (hn : n ≤ 6) (A : Arf Z h0 a ka .char n (fun i => .int (c i))) (O : Old Z n0 h0) (hc : ∀ i, i < n → 0 ≤ (c i).toInt ∧ (c i).toInt < 65536) (hj : j < n) (hcj : 255 < (c j).toInt) (hlo : ∀ i, i < j → (c i).toInt ≤ 255) (S_AD : Sta Z h0 "java/lang/StringUTF16" "$assertionsDisabled" "Z" (.int 1)) (S_HI : Sta Z h0 "java/lang/StringUTF16" "HI_BYTE_SHIFT" "I" (.int 0)) (S_LO : Sta Z h0 "java/lang/StringUTF16" "LO_BYTE_SHIFT" "I" (.int 8)) :
    MetW Z consts_1 sf0 (⟨"java/lang/StringUTF16", "compress", "([CII)[B"⟩ : MethodName) jdk_52_method_16_code 6 (some (.array .byte)) [] ({ frames := 3, cells := 2, slots := 18, locals := 40 } : Room) #[(.ref a), (.int (0 : Int32)), (.int z)] h0 n0 (fun v h sf => ∃ b k, v = some (.ref b) ∧ h0.size ≤ b ∧ Keep h0 h [] ∧ Arf Z h b k .byte (2 * n) (fun i => .int (ub c i))) := by
  refine k_body (hEW hw) (f := (fun m => mkF m 0 #[.val (.ref a), .val (.int (0 : Int32)), .val (.int z), .unset, .unset, .unset] [])) pn_6 (fun m => by first | (simp [entryFrame, mkF, argsToLocals, Value.category, maxLocals]; done) | rfl) ?_
  intro Γ T G X
  have KP := Keep.refl h0 []
  have e255 : (255 : Int32).toInt = 255 := rfl
  show Go Γ n0 _ T (mkF Γ.m 0 #[.val (.ref a), .val (.int (0 : Int32)), .val (.int z), .unset, .unset, .unset] [])
  refine k_iloadN G X d6_0 (pc' := 1) rfl rfl ?_
  refine k_newP G X (aty := .byte) (n := n) (cap := 6) (w28 hw) d6_1 (pc' := 3) rfl hz hn (by decide) (by decide) (by decide) (fun T h1 b1 k1 s_b1 E1 A_b1 X => ?_)
  have ne_a_b1 : a ≠ b1 := Nat.ne_of_lt (Nat.lt_of_lt_of_eq A.lt s_b1)
  have ge_b1 : n0 ≤ b1 := Nat.le_trans (Jvm.OwnK.Old_le O) (Nat.le_of_eq s_b1)
  have sz_b1 : h0.size ≤ b1 := Nat.le_trans KP.1 (Nat.le_of_eq s_b1)
  replace A := A.ext E1
  replace O := O.ext E1
  replace KP := KP.ext E1
  replace S_AD := S_AD.ext E1
  replace S_HI := S_HI.ext E1
  replace S_LO := S_LO.ext E1
  replace A_b1 : Arf Z h1 b1 k1 .byte n (fun _ => (.int (0 : Int32))) := A_b1
  refine k_astoreN G X d6_3 (pc' := 4) rfl rfl (l' := #[.val (.ref a), .val (.int (0 : Int32)), .val (.int z), .val (.ref b1), .unset, .unset]) rfl ?_
  refine k_aloadN G X d6_4 (pc' := 5) rfl rfl rfl ?_
  refine k_iloadN G X d6_5 (pc' := 6) rfl rfl ?_
  refine k_aloadN G X d6_6 (pc' := 7) rfl rfl rfl ?_
  refine k_iconst G X d6_7 (pc' := 8) rfl (z := (0 : Int32)) (by decide) ?_
  refine k_iloadN G X d6_8 (pc' := 9) rfl rfl ?_
  refine k_callS G X (argsL := [(.ref a), (.int (0 : Int32)), (.ref b1), (.int (0 : Int32)), (.int z)]) (rest := []) rfl (w29 hw) (w30 hw) (w26 hw) (w31 hw) (by decide) (u_cmp1 hw a b1 ka k1 n j z c _ h1 n0 _ hz A A_b1 ne_a_b1 ⟨ge_b1, (List.mem_of_getElem? (i := 0) rfl)⟩ hj hcj hlo) d6_9 pd0 rfl (pc' := 12) rfl rfl (wd := 0) rfl (by decide) (by decide) (by decide) (by decide) (fun T h9 v sf9 X q => ?_)
  replace X := W.drop X
  obtain ⟨r, rfl, hr, K9⟩ := q
  replace S_AD := Sta_keepL S_AD K9 (allS (Pln_arf A_b1) (all0))
  replace S_HI := Sta_keepL S_HI K9 (allS (Pln_arf A_b1) (all0))
  replace S_LO := Sta_keepL S_LO K9 (allS (Pln_arf A_b1) (all0))
  replace A := A.keep K9 (by simp only [List.mem_cons, List.not_mem_nil, or_false, not_or]; exact ne_a_b1)
  replace O := O.keep K9 (allS ge_b1 (all0))
  replace KP := KP.trans K9 (allS (Or.inr sz_b1) (all0))
  show Go Γ n0 _ T (mkF Γ.m 12 #[.val (.ref a), .val (.int (0 : Int32)), .val (.int z), .val (.ref b1), .unset, .unset] [(.int r)])
  refine k_istore G X d6_12 (pc' := 14) rfl (l' := #[.val (.ref a), .val (.int (0 : Int32)), .val (.int z), .val (.ref b1), .val (.int r), .unset]) rfl ?_
  refine k_iload G X d6_14 (pc' := 16) rfl rfl ?_
  refine k_iloadN G X d6_16 (pc' := 17) rfl rfl ?_
  refine k_icmp_eq G X d6_17 (pc' := 57) rfl (by decide) (pc'' := 20) rfl (fun c17 => (absurd c17 (fun q => by rw [q] at hr; omega))) (fun c17 => ?_)
  refine k_aloadN G X d6_20 (pc' := 21) rfl rfl rfl ?_
  refine k_iloadN G X d6_21 (pc' := 22) rfl rfl ?_
  refine k_iloadN G X d6_22 (pc' := 23) rfl rfl ?_
  refine k_callS G X (argsL := [(.ref a), (.int (0 : Int32)), (.int z)]) (rest := []) rfl (w32 hw) (w33 hw) (w26 hw) (w34 hw) (by decide) (u_tob hw a ka n z z2 c h9 n0 _ hz hz2 hn A O S_AD S_HI S_LO) d6_23 pd1 rfl (pc' := 26) rfl rfl (wd := 0) rfl (by decide) (by decide) (by decide) (by decide) (fun T h23 v sf23 X q => ?_)
  replace X := W.drop X
  obtain ⟨u, ku, rfl, sz_u, K23, BU⟩ := q
  have sz_u' : h0.size ≤ u := Nat.le_trans KP.1 sz_u
  replace S_AD := Jvm.OwnK.Sta_keep S_AD K23
  replace S_HI := Jvm.OwnK.Sta_keep S_HI K23
  replace S_LO := Jvm.OwnK.Sta_keep S_LO K23
  replace A := A.keep K23 nin0
  replace O := O.keep K23 (all0)
  replace KP := KP.trans K23 (all0)
  show Go Γ n0 _ T (mkF Γ.m 26 #[.val (.ref a), .val (.int (0 : Int32)), .val (.int z), .val (.ref b1), .val (.int r), .unset] [(.ref u)])
  refine k_astore G X d6_26 (pc' := 28) rfl rfl (l' := #[.val (.ref a), .val (.int (0 : Int32)), .val (.int z), .val (.ref b1), .val (.int r), .val (.ref u)]) rfl ?_
  refine k_aload G X d6_28 (pc' := 30) rfl rfl rfl ?_
  refine k_iload G X d6_30 (pc' := 32) rfl rfl ?_
  refine k_callS G X (argsL := [(.ref u), (.int r)]) (rest := []) rfl (w48 hw) (w49 hw) (w26 hw) (w50 hw) (by decide) (u_get hw u ku n j r c h23 n0 _ BU hr hj (by omega) (hc j hj) S_AD S_HI S_LO) d6_32 pd7 rfl (pc' := 35) rfl rfl (wd := 0) rfl (by decide) (by decide) (by decide) (by decide) (fun T h32 v sf32 X q => ?_)
  replace X := W.drop X
  obtain ⟨rfl, e32⟩ := q
  replace X := X.eq e32
  show Go Γ n0 _ T (mkF Γ.m 35 #[.val (.ref a), .val (.int (0 : Int32)), .val (.int z), .val (.ref b1), .val (.int r), .val (.ref u)] [(.int (c j))])
  refine k_sipush G X d6_35 (pc' := 38) rfl (z := (255 : Int32)) (by decide) ?_
  refine k_icmp_gt G X d6_38 (pc' := 54) rfl (by decide) (pc'' := 41) rfl (fun c38 => ?_) (fun c38 => (absurd c38 (by omega)))
  refine k_aload G X d6_54 (pc' := 56) rfl rfl rfl ?_
  refine k_reta G X d6_56 (t := (.array .byte)) rfl rfl rfl ?_ (by decide) (by decide)
  exact ⟨u, ku, rfl, sz_u', KP, BU⟩
set_option maxRecDepth 65536 in
set_option maxHeartbeats 40000000 in
theorem u_cod {Z : State} {a0 : Array Value} (hw : HW a0 Z) (b : Addr) (k : ClassId) (n : Nat) (z z2 : Int32) (f : Nat → Value) (h0 : Heap) (n0 : Nat) (sf0 : List Addr) (hz : z.toInt = n) (hz2 : z2.toInt = (2 * n : Nat)) (hn1 : 0 < n) (hn : n ≤ 6) (B : Arf Z h0 b k .byte (2 * n) f) :
    MetW Z consts_1 sf0 (⟨"java/lang/StringUTF16", "coderFromArrayLen", "([BI)B"⟩ : MethodName) jdk_52_method_15_code 2 (some .byte) [] ({ frames := 0, cells := 0, slots := 0, locals := 0 } : Room) #[(.ref b), (.int z)] h0 n0 (fun v h sf => v = some (.int 1) ∧ h = h0) := by
  refine k_body (hEW hw) (f := (fun m => mkF m 0 #[.val (.ref b), .val (.int z)] [])) pn_13 (fun m => by first | (simp [entryFrame, mkF, argsToLocals, Value.category, maxLocals]; done) | rfl) ?_
  intro Γ T G X
  show Go Γ n0 _ T (mkF Γ.m 0 #[.val (.ref b), .val (.int z)] [])
  refine k_iloadN G X d13_0 (pc' := 1) rfl rfl ?_
  refine k_aloadN G X d13_1 (pc' := 2) rfl rfl rfl ?_
  refine k_alen G X (z := z2) B hz2 d13_2 (pc' := 3) rfl ?_
  refine k_isub G X d13_3 (pc' := 4) rfl rfl ?_
  refine k_bipush G X d13_4 (pc' := 6) rfl (z := (31 : Int32)) (by decide) ?_
  refine k_iushr G X d13_6 (pc' := 7) rfl rfl ?_
  rw [ucod z z2 n hz hz2 hn1 (by omega)]
  refine k_i2b G X d13_7 (pc' := 8) rfl (z := (1 : Int32)) (by decide) ?_
  refine k_retb G X d13_8 (t := .byte) rfl (by simp) rfl ?_ (by decide) (by decide)
  exact ⟨rfl, rfl⟩
set_option maxRecDepth 65536 in
set_option maxHeartbeats 40000000 in
theorem u_init4 {Z : State} {a0 : Array Value} (hw : HW a0 Z) (s a : Addr) (ka : ClassId) (n j : Nat) (z z2 cs : Int32) (c : Nat → Int32) (h0 : Heap) (n0 : Nat) (sf0 : List Addr) (E : Exa Z h0 s "java/lang/String") (FV : Fld Z h0 s "java/lang/String" "value" "[B" .null) (FC : Fld Z h0 s "java/lang/String" "coder" "B" (.int (0 : Int32))) (ne_s_a : s ≠ a) (gm_s : n0 ≤ s ∧ s ∈ sf0) (hn1 : 0 < n) (hz : z.toInt = n) (hz2 : z2.toInt = (2 * n : Nat)) (hn : n ≤ 6) (A : Arf Z h0 a ka .char n (fun i => .int (c i))) (O : Old Z n0 h0) (hc : ∀ i, i < n → 0 ≤ (c i).toInt ∧ (c i).toInt < 65536) (hj : j < n) (hcj : 255 < (c j).toInt) (hlo : ∀ i, i < j → (c i).toInt ≤ 255) (S_AD : Sta Z h0 "java/lang/StringUTF16" "$assertionsDisabled" "Z" (.int 1)) (S_HI : Sta Z h0 "java/lang/StringUTF16" "HI_BYTE_SHIFT" "I" (.int 0)) (S_LO : Sta Z h0 "java/lang/StringUTF16" "LO_BYTE_SHIFT" "I" (.int 8)) (S_CS : Sta Z h0 "java/lang/String" "COMPACT_STRINGS" "Z" (.int cs)) (hcs : cs ≠ 0) :
    MetW Z consts_1 sf0 (⟨"java/lang/String", "<init>", "([CIILjava/lang/Void;)V"⟩ : MethodName) jdk_42_method_149_code 6 none [] ({ frames := 4, cells := 2, slots := 18, locals := 57 } : Room) #[(.ref s), (.ref a), (.int (0 : Int32)), (.int z), .null] h0 n0 (fun v h sf => v = none ∧ Keep h0 h [s] ∧ ∃ b kb, h0.size ≤ b ∧ Stu Z h s b kb n c) := by
  refine k_body (hEW hw) (f := (fun m => mkF m 0 #[.val (.ref s), .val (.ref a), .val (.int (0 : Int32)), .val (.int z), .val .null, .unset] [])) pn_4 (fun m => by first | (simp [entryFrame, mkF, argsToLocals, Value.category, maxLocals]; done) | rfl) ?_
  intro Γ T G X
  have ge_s := gm_s.1
  have KP := Keep.refl h0 [s]
  have E0 := E; have A0 := A
  show Go Γ n0 _ T (mkF Γ.m 0 #[.val (.ref s), .val (.ref a), .val (.int (0 : Int32)), .val (.int z), .val .null, .unset] [])
  refine k_aloadN G X d4_0 (pc' := 1) rfl rfl rfl ?_
  refine k_initO G X (w20 hw) (w21 hw) (w22 hw) d4_1 (pc' := 4) rfl rfl (by decide) (wd := 0) rfl (by decide) (fun T X => ?_)
  refine k_iloadN G X d4_4 (pc' := 5) rfl rfl ?_
  refine k_if_ne G X d4_5 (pc' := 27) rfl (by decide) (pc'' := 8) rfl (fun c5 => ?_) (fun c5 => (absurd c5 (by intro q; rw [q, z32] at hz; omega)))
  refine k_getS G X (host := "") (Or.inl (w23 hw)) Via.refl S_CS d4_27 (pc' := 30) rfl (fun T X => ?_)
  refine k_if_eq G X d4_30 (pc' := 58) rfl (by decide) (pc'' := 33) rfl (fun c30 => (absurd c30 hcs)) (fun c30 => ?_)
  refine k_aloadN G X d4_33 (pc' := 34) rfl rfl rfl ?_
  refine k_iloadN G X d4_34 (pc' := 35) rfl rfl ?_
  refine k_iloadN G X d4_35 (pc' := 36) rfl rfl ?_
  refine k_callS G X (argsL := [(.ref a), (.int (0 : Int32)), (.int z)]) (rest := []) rfl (w24 hw) (w25 hw) (w26 hw) (w27 hw) (by decide) (u_cmp2 hw a ka n j z z2 c h0 n0 _ hz hz2 hn A O hc hj hcj hlo S_AD S_HI S_LO) d4_36 pd1 rfl (pc' := 39) rfl rfl (wd := 0) rfl (by decide) (by decide) (by decide) (by decide) (fun T h36 v sf36 X q => ?_)
  replace X := W.drop X
  obtain ⟨b, kb, rfl, sz_b, K36, B⟩ := q
  replace S_CS := Jvm.OwnK.Sta_keep S_CS K36
  replace S_AD := Jvm.OwnK.Sta_keep S_AD K36
  replace S_HI := Jvm.OwnK.Sta_keep S_HI K36
  replace S_LO := Jvm.OwnK.Sta_keep S_LO K36
  replace E := E.keep K36
  replace FV := FV.keep K36 nin0
  replace FC := FC.keep K36 nin0
  replace A := A.keep K36 nin0
  replace O := O.keep K36 (all0)
  replace KP := KP.trans K36 (all0)
  show Go Γ n0 _ T (mkF Γ.m 39 #[.val (.ref s), .val (.ref a), .val (.int (0 : Int32)), .val (.int z), .val .null, .unset] [(.ref b)])
  refine k_astore G X d4_39 (pc' := 41) rfl rfl (l' := #[.val (.ref s), .val (.ref a), .val (.int (0 : Int32)), .val (.int z), .val .null, .val (.ref b)]) rfl ?_
  have ne_s_b : s ≠ b := Nat.ne_of_lt (Nat.lt_of_lt_of_le E0.lt sz_b)
  have ne_a_b : a ≠ b := Nat.ne_of_lt (Nat.lt_of_lt_of_le A0.lt sz_b)
  refine k_aloadN G X d4_41 (pc' := 42) rfl rfl rfl ?_
  refine k_aload G X d4_42 (pc' := 44) rfl rfl rfl ?_
  refine k_iloadN G X d4_44 (pc' := 45) rfl rfl ?_
  refine k_callS G X (argsL := [(.ref b), (.int z)]) (rest := [(.ref s)]) rfl (w51 hw) (w52 hw) (w26 hw) (w53 hw) (by decide) (u_cod hw b kb n z z2 _ h36 n0 _ hz hz2 hn1 hn B) d4_45 pd2 rfl (pc' := 48) rfl rfl (wd := 1) rfl (by decide) (by decide) (by decide) (by decide) (fun T h45 v sf45 X q => ?_)
  replace X := W.drop X
  obtain ⟨rfl, e45⟩ := q
  replace X := X.eq e45
  show Go Γ n0 _ T (mkF Γ.m 48 #[.val (.ref s), .val (.ref a), .val (.int (0 : Int32)), .val (.int z), .val .null, .val (.ref b)] [(.int (1 : Int32)), (.ref s)])
  refine k_putFN G X (w54 hw) Via.refl FC E (Or.inr ⟨(w55 hw), rfl, rfl⟩) (w11 hw) (ty := .byte) (v' := (.int (1 : Int32))) (by decide) rfl rfl ge_s (List.mem_append_right [] gm_s.2) d4_48 (pc' := 51) rfl (fun T h48 W48 X => ?_)
  replace E := E.wr W48
  replace FV := FV.other W48 (Or.inr (slot_ne (Or.inr (w57 hw)) (Or.inr (w55 hw)) (by decide) (t := (.array .byte)) (t' := .byte) (by decide) (by decide)))
  replace FC := FC.same W48
  replace A := A.other W48 (Ne.symm ne_s_a)
  replace O := O.wr W48 ge_s
  replace KP := KP.wr W48 (Or.inl (List.mem_of_getElem? (i := 0) rfl))
  replace S_CS := S_CS.wr W48
  replace S_AD := S_AD.wr W48
  replace S_HI := S_HI.wr W48
  replace S_LO := S_LO.wr W48
  replace B := B.other W48 (Ne.symm ne_s_b)
  refine k_aloadN G X d4_51 (pc' := 52) rfl rfl rfl ?_
  refine k_aload G X d4_52 (pc' := 54) rfl rfl rfl ?_
  refine k_putF G X (host := "") (Or.inl (w56 hw)) Via.refl FV E (Or.inr ⟨(w57 hw), rfl, rfl⟩) (w11 hw) (ty := (.array .byte)) (by decide) rfl rfl ge_s (List.mem_append_right [] gm_s.2) d4_54 (pc' := 57) rfl (fun T h54 W54 X => ?_)
  replace E := E.wr W54
  replace FV := FV.same W54
  replace FC := FC.other W54 (Or.inr (slot_ne (Or.inr (w55 hw)) (Or.inr (w57 hw)) (by decide) (t := .byte) (t' := (.array .byte)) (by decide) (by decide)))
  replace A := A.other W54 (Ne.symm ne_s_a)
  replace O := O.wr W54 ge_s
  replace KP := KP.wr W54 (Or.inl (List.mem_of_getElem? (i := 0) rfl))
  replace S_CS := S_CS.wr W54
  replace S_AD := S_AD.wr W54
  replace S_HI := S_HI.wr W54
  replace S_LO := S_LO.wr W54
  replace B := B.other W54 (Ne.symm ne_s_b)
  refine k_retv G X d4_57 rfl ?_ (by decide) (by decide)
  exact ⟨rfl, KP, b, kb, sz_b, E, FC, FV, B⟩
set_option maxRecDepth 65536 in
set_option maxHeartbeats 40000000 in
theorem u_init {Z : State} {a0 : Array Value} (hw : HW a0 Z) (s a : Addr) (ka : ClassId) (n j : Nat) (z z2 cs : Int32) (c : Nat → Int32) (h0 : Heap) (n0 : Nat) (sf0 : List Addr) (E : Exa Z h0 s "java/lang/String") (FV : Fld Z h0 s "java/lang/String" "value" "[B" .null) (FC : Fld Z h0 s "java/lang/String" "coder" "B" (.int (0 : Int32))) (ne_s_a : s ≠ a) (gm_s : n0 ≤ s ∧ s ∈ sf0) (hn1 : 0 < n) (hz : z.toInt = n) (hz2 : z2.toInt = (2 * n : Nat)) (hn : n ≤ 6) (A : Arf Z h0 a ka .char n (fun i => .int (c i))) (O : Old Z n0 h0) (hc : ∀ i, i < n → 0 ≤ (c i).toInt ∧ (c i).toInt < 65536) (hj : j < n) (hcj : 255 < (c j).toInt) (hlo : ∀ i, i < j → (c i).toInt ≤ 255) (S_AD : Sta Z h0 "java/lang/StringUTF16" "$assertionsDisabled" "Z" (.int 1)) (S_HI : Sta Z h0 "java/lang/StringUTF16" "HI_BYTE_SHIFT" "I" (.int 0)) (S_LO : Sta Z h0 "java/lang/StringUTF16" "LO_BYTE_SHIFT" "I" (.int 8)) (S_CS : Sta Z h0 "java/lang/String" "COMPACT_STRINGS" "Z" (.int cs)) (hcs : cs ≠ 0) :
    MetW Z consts_1 sf0 (⟨"java/lang/String", "<init>", "([C)V"⟩ : MethodName) jdk_42_method_3_code 2 none [] ({ frames := 5, cells := 2, slots := 18, locals := 74 } : Room) #[(.ref s), (.ref a)] h0 n0 (fun v h sf => v = none ∧ Keep h0 h [s] ∧ ∃ b kb, h0.size ≤ b ∧ Stu Z h s b kb n c) := by
  refine k_body (hEW hw) (f := (fun m => mkF m 0 #[.val (.ref s), .val (.ref a)] [])) pn_3 (fun m => by first | (simp [entryFrame, mkF, argsToLocals, Value.category, maxLocals]; done) | rfl) ?_
  intro Γ T G X
  have ge_s := gm_s.1
  have KP := Keep.refl h0 [s]
  show Go Γ n0 _ T (mkF Γ.m 0 #[.val (.ref s), .val (.ref a)] [])
  refine k_aloadN G X d3_0 (pc' := 1) rfl rfl rfl ?_
  refine k_aloadN G X d3_1 (pc' := 2) rfl rfl rfl ?_
  refine k_iconst G X d3_2 (pc' := 3) rfl (z := (0 : Int32)) (by decide) ?_
  refine k_aloadN G X d3_3 (pc' := 4) rfl rfl rfl ?_
  refine k_alen G X (z := z) A hz d3_4 (pc' := 5) rfl ?_
  refine k_anull G X d3_5 (pc' := 6) rfl ?_
  refine k_callI G X (argsL := [(.ref a), (.int (0 : Int32)), (.int z), .null]) (rest := []) rfl rfl (w16 hw) (w17 hw) (w12 hw) (w19 hw) (by decide) (u_init4 hw s a ka n j z z2 cs c h0 n0 _ E FV FC ne_s_a ⟨ge_s, (List.mem_append_right [] gm_s.2)⟩ hn1 hz hz2 hn A O hc hj hcj hlo S_AD S_HI S_LO S_CS hcs) d3_6 pd3 rfl (pc' := 9) rfl rfl (wd := 0) rfl (by decide) (by decide) (by decide) (by decide) (fun T h6 v sf6 X q => ?_)
  replace X := W.drop X
  obtain ⟨rfl, q⟩ := q
  show Go Γ n0 _ T (mkF Γ.m 9 #[.val (.ref s), .val (.ref a)] [])
  refine k_retv G X d3_9 rfl ?_ (by decide) (by decide)
  exact ⟨rfl, q⟩
theorem pn_19 : plainFor (⟨"java/lang/String", "isLatin1", "()Z"⟩ : MethodName) = true := plainFor_of_name (by first | (simp [plainName, overriddenIn]; done) | decide +kernel)
set_option maxRecDepth 65536 in
set_option maxHeartbeats 40000000 in
theorem str_lat {Z : State} {a0 : Array Value} (hw : HW a0 Z) (s b : Addr) (k : ClassId) (n : Nat) (z cs : Int32) (f : Nat → Int32) (h0 : Heap) (n0 : Nat) (sf0 : List Addr) (SS : Str Z h0 s b k n f) (hz : z.toInt = n) (S_CS : Sta Z h0 "java/lang/String" "COMPACT_STRINGS" "Z" (.int cs)) (hcs : cs ≠ 0) :
    MetW Z consts_1 sf0 (⟨"java/lang/String", "isLatin1", "()Z"⟩ : MethodName) jdk_42_method_154_code 1 (some .boolean) [] ({ frames := 0, cells := 0, slots := 0, locals := 0 } : Room) #[(.ref s)] h0 n0 (fun v h sf => v = some (.int 1) ∧ h = h0) := by
  refine k_body (hEW hw) (f := (fun m => mkF m 0 #[.val (.ref s)] [])) pn_19 (fun m => by first | (simp [entryFrame, mkF, argsToLocals, Value.category, maxLocals]; done) | rfl) ?_
  intro Γ T G X
  obtain ⟨SE, SC, SV, SA⟩ := id SS
  show Go Γ n0 _ T (mkF Γ.m 0 #[.val (.ref s)] [])
  refine k_getS G X (host := "") (Or.inl (w23 hw)) Via.refl S_CS d19_0 (pc' := 3) rfl (fun T X => ?_)
  refine k_if_eq G X d19_3 (pc' := 17) rfl (by decide) (pc'' := 6) rfl (fun c3 => (absurd c3 hcs)) (fun c3 => ?_)
  refine k_aloadN G X d19_6 (pc' := 7) rfl rfl rfl ?_
  refine k_getF G X (host := "") (Or.inl (w54 hw)) Via.refl SC d19_7 (pc' := 10) rfl (fun T X => ?_)
  refine k_if_ne G X d19_10 (pc' := 17) rfl (by decide) (pc'' := 13) rfl (fun c10 => (absurd c10 (by decide))) (fun c10 => ?_)
  refine k_iconst G X d19_13 (pc' := 14) rfl (z := (1 : Int32)) (by decide) ?_
  refine k_goto G X d19_14 (by decide) (pc' := 18) rfl ?_
  refine k_retb G X d19_18 (t := .boolean) rfl (by simp) rfl ?_ (by decide) (by decide)
  exact ⟨rfl, rfl⟩
theorem pn_16 : plainFor (⟨"java/lang/String", "coder", "()B"⟩ : MethodName) = true := plainFor_of_name (by first | (simp [plainName, overriddenIn]; done) | decide +kernel)
set_option maxRecDepth 65536 in
set_option maxHeartbeats 40000000 in
theorem str_cod1 {Z : State} {a0 : Array Value} (hw : HW a0 Z) (s b : Addr) (k : ClassId) (n : Nat) (z cs : Int32) (f : Nat → Int32) (h0 : Heap) (n0 : Nat) (sf0 : List Addr) (SS : Str Z h0 s b k n f) (hz : z.toInt = n) (S_CS : Sta Z h0 "java/lang/String" "COMPACT_STRINGS" "Z" (.int cs)) (hcs : cs ≠ 0) :
    MetW Z consts_1 sf0 (⟨"java/lang/String", "coder", "()B"⟩ : MethodName) jdk_42_method_152_code 1 (some .byte) [] ({ frames := 0, cells := 0, slots := 0, locals := 0 } : Room) #[(.ref s)] h0 n0 (fun v h sf => v = some (.int 0) ∧ h = h0) := by
  refine k_body (hEW hw) (f := (fun m => mkF m 0 #[.val (.ref s)] [])) pn_16 (fun m => by first | (simp [entryFrame, mkF, argsToLocals, Value.category, maxLocals]; done) | rfl) ?_
  intro Γ T G X
  obtain ⟨SE, SC, SV, SA⟩ := id SS
  show Go Γ n0 _ T (mkF Γ.m 0 #[.val (.ref s)] [])
  refine k_getS G X (host := "") (Or.inl (w23 hw)) Via.refl S_CS d16_0 (pc' := 3) rfl (fun T X => ?_)
  refine k_if_eq G X d16_3 (pc' := 13) rfl (by decide) (pc'' := 6) rfl (fun c3 => (absurd c3 hcs)) (fun c3 => ?_)
  refine k_aloadN G X d16_6 (pc' := 7) rfl rfl rfl ?_
  refine k_getF G X (host := "") (Or.inl (w54 hw)) Via.refl SC d16_7 (pc' := 10) rfl (fun T X => ?_)
  refine k_goto G X d16_10 (by decide) (pc' := 14) rfl ?_
  refine k_retb G X d16_14 (t := .byte) rfl (by simp) rfl ?_ (by decide) (by decide)
  exact ⟨rfl, rfl⟩
theorem pn_15 : plainFor (⟨"java/lang/String", "length", "()I"⟩ : MethodName) = true := plainFor_of_name (by first | (simp [plainName, overriddenIn]; done) | decide +kernel)
set_option maxRecDepth 65536 in
set_option maxHeartbeats 40000000 in
theorem str_len {Z : State} {a0 : Array Value} (hw : HW a0 Z) (s b : Addr) (k : ClassId) (n : Nat) (z cs : Int32) (f : Nat → Int32) (h0 : Heap) (n0 : Nat) (sf0 : List Addr) (SS : Str Z h0 s b k n f) (hz : z.toInt = n) (S_CS : Sta Z h0 "java/lang/String" "COMPACT_STRINGS" "Z" (.int cs)) (hcs : cs ≠ 0) :
    MetW Z consts_1 sf0 (⟨"java/lang/String", "length", "()I"⟩ : MethodName) jdk_42_method_54_code 1 (some .int) [] ({ frames := 1, cells := 0, slots := 0, locals := 13 } : Room) #[(.ref s)] h0 n0 (fun v h sf => v = some (.int z) ∧ h = h0) := by
  refine k_body (hEW hw) (f := (fun m => mkF m 0 #[.val (.ref s)] [])) pn_15 (fun m => by first | (simp [entryFrame, mkF, argsToLocals, Value.category, maxLocals]; done) | rfl) ?_
  intro Γ T G X
  obtain ⟨SE, SC, SV, SA⟩ := id SS
  show Go Γ n0 _ T (mkF Γ.m 0 #[.val (.ref s)] [])
  refine k_aloadN G X d15_0 (pc' := 1) rfl rfl rfl ?_
  refine k_getF G X (host := "") (Or.inl (w56 hw)) Via.refl SV d15_1 (pc' := 4) rfl (fun T X => ?_)
  refine k_alen G X (z := z) SA hz d15_4 (pc' := 5) rfl ?_
  refine k_aloadN G X d15_5 (pc' := 6) rfl rfl rfl ?_
  refine k_callV G X (argsL := []) (rest := [(.int z)]) rfl SE (w70 hw) (w71 hw) (nf_sel (w73 hw)) (w73 hw) (w72 hw) (w12 hw) (w74 hw) (by decide) (str_cod1 hw s b k n z cs f h0 n0 _ SS hz S_CS hcs) d15_6 pd8 rfl (pc' := 9) rfl rfl (wd := 1) rfl (by decide) (by decide) (by decide) (by decide) (fun T h6 v sf6 X q => ?_)
  replace X := W.drop X
  obtain ⟨rfl, e6⟩ := q
  replace X := X.eq e6
  show Go Γ n0 _ T (mkF Γ.m 9 #[.val (.ref s)] [(.int (0 : Int32)), (.int z)])
  refine k_ishr G X d15_9 (pc' := 10) rfl rfl ?_
  rw [shr0 z]
  refine k_reti G X d15_10 rfl ?_ (by decide) (by decide)
  exact ⟨rfl, rfl⟩
theorem pn_24 : plainFor (⟨"jdk/internal/util/Preconditions", "checkIndex", "(IILjava/util/function/BiFunction;)I"⟩ : MethodName) = true := plainFor_of_name (by first | (simp [plainName, overriddenIn]; done) | decide +kernel)
set_option maxRecDepth 65536 in
set_option maxHeartbeats 40000000 in
theorem pre_idx {Z : State} {a0 : Array Value} (hw : HW a0 Z) (j z : Int32) (fm : Value) (h0 : Heap) (n0 : Nat) (sf0 : List Addr) (hj : 0 ≤ j.toInt) (hjz : j.toInt < z.toInt) (hfm : fm.isRef = true) :
    MetW Z consts_1 sf0 (⟨"jdk/internal/util/Preconditions", "checkIndex", "(IILjava/util/function/BiFunction;)I"⟩ : MethodName) jdk_41_method_11_code 3 (some .int) [] ({ frames := 0, cells := 0, slots := 0, locals := 0 } : Room) #[(.int j), (.int z), fm] h0 n0 (fun v h sf => v = some (.int j) ∧ h = h0) := by
  refine k_body (hEW hw) (f := (fun m => mkF m 0 #[.val (.int j), .val (.int z), .val fm] [])) pn_24 (fun m => by rcases ref_cases hfm with rfl | ⟨a, rfl⟩ <;> first | (simp [entryFrame, mkF, argsToLocals, Value.category, maxLocals]; done) | rfl) ?_
  intro Γ T G X
  show Go Γ n0 _ T (mkF Γ.m 0 #[.val (.int j), .val (.int z), .val fm] [])
  refine k_iloadN G X d24_0 (pc' := 1) rfl rfl ?_
  refine k_if_lt G X d24_1 (pc' := 9) rfl (by decide) (pc'' := 4) rfl (fun c1 => (absurd c1 (by omega))) (fun c1 => ?_)
  refine k_iloadN G X d24_4 (pc' := 5) rfl rfl ?_
  refine k_iloadN G X d24_5 (pc' := 6) rfl rfl ?_
  refine k_icmp_lt G X d24_6 (pc' := 16) rfl (by decide) (pc'' := 9) rfl (fun c6 => ?_) (fun c6 => (absurd c6 (by omega)))
  refine k_iloadN G X d24_16 (pc' := 17) rfl rfl ?_
  refine k_reti G X d24_17 rfl ?_ (by decide) (by decide)
  exact ⟨rfl, rfl⟩
theorem pn_23 : plainFor (⟨"java/lang/String", "checkIndex", "(II)V"⟩ : MethodName) = true := plainFor_of_name (by first | (simp [plainName, overriddenIn]; done) | decide +kernel)
set_option maxRecDepth 65536 in
set_option maxHeartbeats 40000000 in
theorem str_chk {Z : State} {a0 : Array Value} (hw : HW a0 Z) (j z : Int32) (fm : Value) (h0 : Heap) (n0 : Nat) (sf0 : List Addr) (hj : 0 ≤ j.toInt) (hjz : j.toInt < z.toInt) (S_FM : Sta Z h0 "jdk/internal/util/Preconditions" "SIOOBE_FORMATTER" "Ljava/util/function/BiFunction;" fm) (hfm : fm.isRef = true) :
    MetW Z consts_1 sf0 (⟨"java/lang/String", "checkIndex", "(II)V"⟩ : MethodName) jdk_42_method_155_code 2 none [] ({ frames := 1, cells := 0, slots := 0, locals := 14 } : Room) #[(.int j), (.int z)] h0 n0 (fun v h sf => v = none ∧ h = h0) := by
  refine k_body (hEW hw) (f := (fun m => mkF m 0 #[.val (.int j), .val (.int z)] [])) pn_23 (fun m => by first | (simp [entryFrame, mkF, argsToLocals, Value.category, maxLocals]; done) | rfl) ?_
  intro Γ T G X
  show Go Γ n0 _ T (mkF Γ.m 0 #[.val (.int j), .val (.int z)] [])
  refine k_iloadN G X d23_0 (pc' := 1) rfl rfl ?_
  refine k_iloadN G X d23_1 (pc' := 2) rfl rfl ?_
  refine k_getS G X (host := "") (Or.inl (w100 hw)) Via.refl S_FM d23_2 (pc' := 5) rfl (fun T X => ?_)
  refine k_callS G X (argsL := [(.int j), (.int z), fm]) (rest := []) rfl (w102 hw) (w103 hw) (w101 hw) (w104 hw) (by decide) (pre_idx hw j z fm h0 n0 _ hj hjz hfm) d23_5 pd9 rfl (pc' := 8) rfl rfl (wd := 0) rfl (by decide) (by decide) (by decide) (by decide) (fun T h5 v sf5 X q => ?_)
  replace X := W.drop X
  obtain ⟨rfl, e5⟩ := q
  replace X := X.eq e5
  show Go Γ n0 _ T (mkF Γ.m 8 #[.val (.int j), .val (.int z)] [(.int j)])
  refine k_pop G X d23_8 (pc' := 9) rfl rfl ?_
  refine k_retv G X d23_9 rfl ?_ (by decide) (by decide)
  exact ⟨rfl, rfl⟩
theorem pn_33 : plainFor (⟨"java/lang/StringLatin1", "charAt", "([BI)C"⟩ : MethodName) = true := plainFor_of_name (by first | (simp [plainName, overriddenIn]; done) | decide +kernel)
set_option maxRecDepth 65536 in
set_option maxHeartbeats 40000000 in
theorem str_lch {Z : State} {a0 : Array Value} (hw : HW a0 Z) (b : Addr) (k : ClassId) (n i : Nat) (z j : Int32) (f : Nat → Int32) (fm : Value) (h0 : Heap) (n0 : Nat) (sf0 : List Addr) (SA : Arf Z h0 b k .byte n (fun i => .int (f i))) (hz : z.toInt = n) (hji : j.toInt = i) (hin : i < n) (S_FM : Sta Z h0 "jdk/internal/util/Preconditions" "SIOOBE_FORMATTER" "Ljava/util/function/BiFunction;" fm) (hfm : fm.isRef = true) :
    MetW Z consts_1 sf0 (⟨"java/lang/StringLatin1", "charAt", "([BI)C"⟩ : MethodName) jdk_43_method_2_code 2 (some .char) [] ({ frames := 2, cells := 0, slots := 0, locals := 27 } : Room) #[(.ref b), (.int j)] h0 n0 (fun v h sf => ∃ r : Int32, v = some (.int r) ∧ r.toInt = (f i).toInt % 256 ∧ h = h0) := by
  refine k_body (hEW hw) (f := (fun m => mkF m 0 #[.val (.ref b), .val (.int j)] [])) pn_33 (fun m => by first | (simp [entryFrame, mkF, argsToLocals, Value.category, maxLocals]; done) | rfl) ?_
  intro Γ T G X
  have hj : 0 ≤ j.toInt := by omega
  have hjz : j.toInt < z.toInt := by omega
  show Go Γ n0 _ T (mkF Γ.m 0 #[.val (.ref b), .val (.int j)] [])
  refine k_iloadN G X d33_0 (pc' := 1) rfl rfl ?_
  refine k_aloadN G X d33_1 (pc' := 2) rfl rfl rfl ?_
  refine k_alen G X (z := z) SA hz d33_2 (pc' := 3) rfl ?_
  refine k_callS G X (argsL := [(.int j), (.int z)]) (rest := []) rfl (w150 hw) (w98 hw) (w12 hw) (w99 hw) (by decide) (str_chk hw j z fm h0 n0 _ hj hjz S_FM hfm) d33_3 pd10 rfl (pc' := 6) rfl rfl (wd := 0) rfl (by decide) (by decide) (by decide) (by decide) (fun T h3 v sf3 X q => ?_)
  replace X := W.drop X
  obtain ⟨rfl, e3⟩ := q
  replace X := X.eq e3
  show Go Γ n0 _ T (mkF Γ.m 6 #[.val (.ref b), .val (.int j)] [])
  refine k_aloadN G X d33_6 (pc' := 7) rfl rfl rfl ?_
  refine k_iloadN G X d33_7 (pc' := 8) rfl rfl ?_
  refine k_baload G X (i := i) (v := (.int (f i))) SA hji hin rfl d33_8 (pc' := 9) rfl ?_
  refine k_sipush G X d33_9 (pc' := 12) rfl (z := (255 : Int32)) (by decide) ?_
  refine k_iand G X d33_12 (pc' := 13) rfl rfl ?_
  refine k_i2c G X d33_13 (pc' := 14) rfl rfl ?_
  refine k_retb G X d33_14 (t := .char) rfl (by simp) (nr_i2c _) ?_ (by decide) (by decide)
  exact ⟨_, rfl, chr_of _, rfl⟩
theorem pn_18 : plainFor (⟨"java/lang/String", "charAt", "(I)C"⟩ : MethodName) = true := plainFor_of_name (by first | (simp [plainName, overriddenIn]; done) | decide +kernel)
set_option maxRecDepth 65536 in
set_option maxHeartbeats 40000000 in
theorem str_at {Z : State} {a0 : Array Value} (hw : HW a0 Z) (s b : Addr) (k : ClassId) (n i : Nat) (z cs j : Int32) (f : Nat → Int32) (fm : Value) (h0 : Heap) (n0 : Nat) (sf0 : List Addr) (SS : Str Z h0 s b k n f) (hz : z.toInt = n) (S_CS : Sta Z h0 "java/lang/String" "COMPACT_STRINGS" "Z" (.int cs)) (hcs : cs ≠ 0) (hji : j.toInt = i) (hin : i < n) (S_FM : Sta Z h0 "jdk/internal/util/Preconditions" "SIOOBE_FORMATTER" "Ljava/util/function/BiFunction;" fm) (hfm : fm.isRef = true) :
    MetW Z consts_1 sf0 (⟨"java/lang/String", "charAt", "(I)C"⟩ : MethodName) jdk_42_method_56_code 2 (some .char) [] ({ frames := 3, cells := 0, slots := 0, locals := 40 } : Room) #[(.ref s), (.int j)] h0 n0 (fun v h sf => ∃ r : Int32, v = some (.int r) ∧ r.toInt = (f i).toInt % 256 ∧ h = h0) := by
  refine k_body (hEW hw) (f := (fun m => mkF m 0 #[.val (.ref s), .val (.int j)] [])) pn_18 (fun m => by first | (simp [entryFrame, mkF, argsToLocals, Value.category, maxLocals]; done) | rfl) ?_
  intro Γ T G X
  obtain ⟨SE, SC, SV, SA⟩ := id SS
  show Go Γ n0 _ T (mkF Γ.m 0 #[.val (.ref s), .val (.int j)] [])
  refine k_aloadN G X d18_0 (pc' := 1) rfl rfl rfl ?_
  refine k_callV G X (argsL := []) (rest := []) rfl SE (w83 hw) (w84 hw) (nf_sel (w86 hw)) (w86 hw) (w85 hw) (w12 hw) (w87 hw) (by decide) (str_lat hw s b k n z cs f h0 n0 _ SS hz S_CS hcs) d18_1 pd11 rfl (pc' := 4) rfl rfl (wd := 0) rfl (by decide) (by decide) (by decide) (by decide) (fun T h1 v sf1 X q => ?_)
  replace X := W.drop X
  obtain ⟨rfl, e1⟩ := q
  replace X := X.eq e1
  show Go Γ n0 _ T (mkF Γ.m 4 #[.val (.ref s), .val (.int j)] [(.int (1 : Int32))])
  refine k_if_eq G X d18_4 (pc' := 16) rfl (by decide) (pc'' := 7) rfl (fun c4 => (absurd c4 (by decide))) (fun c4 => ?_)
  refine k_aloadN G X d18_7 (pc' := 8) rfl rfl rfl ?_
  refine k_getF G X (host := "") (Or.inl (w56 hw)) Via.refl SV d18_8 (pc' := 11) rfl (fun T X => ?_)
  refine k_iloadN G X d18_11 (pc' := 12) rfl rfl ?_
  refine k_callS G X (argsL := [(.ref b), (.int j)]) (rest := []) rfl (w146 hw) (w147 hw) (w148 hw) (w149 hw) (by decide) (str_lch hw b k n i z j f fm h0 n0 _ SS.2.2.2 hz hji hin S_FM hfm) d18_12 pd7 rfl (pc' := 15) rfl rfl (wd := 0) rfl (by decide) (by decide) (by decide) (by decide) (fun T h12 v sf12 X q => ?_)
  replace X := W.drop X
  obtain ⟨r, rfl, hr, e12⟩ := q
  replace X := X.eq e12
  show Go Γ n0 _ T (mkF Γ.m 15 #[.val (.ref s), .val (.int j)] [(.int r)])
  have hnr : narrow .char (.int r) = .int r := nr_char (by omega) (by omega)
  refine k_retb G X d18_15 (t := .char) rfl (by simp) hnr ?_ (by decide) (by decide)
  exact ⟨_, rfl, hr, rfl⟩
set_option maxRecDepth 65536 in
set_option maxHeartbeats 40000000 in
theorem u_lat {Z : State} {a0 : Array Value} (hw : HW a0 Z) (s b : Addr) (k : ClassId) (n : Nat) (cs z2 : Int32) (c : Nat → Int32) (h0 : Heap) (n0 : Nat) (sf0 : List Addr) (hz2 : z2.toInt = (2 * n : Nat)) (SU : Stu Z h0 s b k n c) (S_CS : Sta Z h0 "java/lang/String" "COMPACT_STRINGS" "Z" (.int cs)) (hcs : cs ≠ 0) :
    MetW Z consts_1 sf0 (⟨"java/lang/String", "isLatin1", "()Z"⟩ : MethodName) jdk_42_method_154_code 1 (some .boolean) [] ({ frames := 0, cells := 0, slots := 0, locals := 0 } : Room) #[(.ref s)] h0 n0 (fun v h sf => v = some (.int 0) ∧ h = h0) := by
  refine k_body (hEW hw) (f := (fun m => mkF m 0 #[.val (.ref s)] [])) pn_19 (fun m => by first | (simp [entryFrame, mkF, argsToLocals, Value.category, maxLocals]; done) | rfl) ?_
  intro Γ T G X
  obtain ⟨SE, SC, SV, B⟩ := id SU
  show Go Γ n0 _ T (mkF Γ.m 0 #[.val (.ref s)] [])
  refine k_getS G X (host := "") (Or.inl (w23 hw)) Via.refl S_CS d19_0 (pc' := 3) rfl (fun T X => ?_)
  refine k_if_eq G X d19_3 (pc' := 17) rfl (by decide) (pc'' := 6) rfl (fun c3 => (absurd c3 hcs)) (fun c3 => ?_)
  refine k_aloadN G X d19_6 (pc' := 7) rfl rfl rfl ?_
  refine k_getF G X (host := "") (Or.inl (w54 hw)) Via.refl SC d19_7 (pc' := 10) rfl (fun T X => ?_)
  refine k_if_ne G X d19_10 (pc' := 17) rfl (by decide) (pc'' := 13) rfl (fun c10 => ?_) (fun c10 => (absurd c10 (by decide)))
  refine k_iconst G X d19_17 (pc' := 18) rfl (z := (0 : Int32)) (by decide) ?_
  refine k_retb G X d19_18 (t := .boolean) rfl (by simp) rfl ?_ (by decide) (by decide)
  exact ⟨rfl, rfl⟩
set_option maxRecDepth 65536 in
set_option maxHeartbeats 40000000 in
theorem u_cod1 {Z : State} {a0 : Array Value} (hw : HW a0 Z) (s b : Addr) (k : ClassId) (n : Nat) (cs z2 : Int32) (c : Nat → Int32) (h0 : Heap) (n0 : Nat) (sf0 : List Addr) (hz2 : z2.toInt = (2 * n : Nat)) (SU : Stu Z h0 s b k n c) (S_CS : Sta Z h0 "java/lang/String" "COMPACT_STRINGS" "Z" (.int cs)) (hcs : cs ≠ 0) :
    MetW Z consts_1 sf0 (⟨"java/lang/String", "coder", "()B"⟩ : MethodName) jdk_42_method_152_code 1 (some .byte) [] ({ frames := 0, cells := 0, slots := 0, locals := 0 } : Room) #[(.ref s)] h0 n0 (fun v h sf => v = some (.int 1) ∧ h = h0) := by
  refine k_body (hEW hw) (f := (fun m => mkF m 0 #[.val (.ref s)] [])) pn_16 (fun m => by first | (simp [entryFrame, mkF, argsToLocals, Value.category, maxLocals]; done) | rfl) ?_
  intro Γ T G X
  obtain ⟨SE, SC, SV, B⟩ := id SU
  show Go Γ n0 _ T (mkF Γ.m 0 #[.val (.ref s)] [])
  refine k_getS G X (host := "") (Or.inl (w23 hw)) Via.refl S_CS d16_0 (pc' := 3) rfl (fun T X => ?_)
  refine k_if_eq G X d16_3 (pc' := 13) rfl (by decide) (pc'' := 6) rfl (fun c3 => (absurd c3 hcs)) (fun c3 => ?_)
  refine k_aloadN G X d16_6 (pc' := 7) rfl rfl rfl ?_
  refine k_getF G X (host := "") (Or.inl (w54 hw)) Via.refl SC d16_7 (pc' := 10) rfl (fun T X => ?_)
  refine k_goto G X d16_10 (by decide) (pc' := 14) rfl ?_
  refine k_retb G X d16_14 (t := .byte) rfl (by simp) rfl ?_ (by decide) (by decide)
  exact ⟨rfl, rfl⟩
set_option maxRecDepth 65536 in
set_option maxHeartbeats 40000000 in
theorem t_len_l {Z : State} {a0 : Array Value} (hw : HW a0 Z) (s b : Addr) (k : ClassId) (n : Nat) (z z2 cs : Int32) (c : Nat → Int32) (h0 : Heap) (n0 : Nat) (sf0 : List Addr) (SS : Str Z h0 s b k n (fun i => (c i).toInt8.toInt32)) (hl : ∀ i, i < n → 0 ≤ (c i).toInt ∧ (c i).toInt ≤ 255) (hz : z.toInt = n) (hz2 : z2.toInt = (2 * n : Nat)) (S_CS : Sta Z h0 "java/lang/String" "COMPACT_STRINGS" "Z" (.int cs)) (hcs : cs ≠ 0) :
    MetW Z consts_1 sf0 (⟨"java/lang/String", "length", "()I"⟩ : MethodName) jdk_42_method_54_code 1 (some .int) [] ({ frames := 1, cells := 0, slots := 0, locals := 13 } : Room) #[(.ref s)] h0 n0 (fun v h sf => v = some (.int z) ∧ h = h0) := by
  refine k_body (hEW hw) (f := (fun m => mkF m 0 #[.val (.ref s)] [])) pn_15 (fun m => by first | (simp [entryFrame, mkF, argsToLocals, Value.category, maxLocals]; done) | rfl) ?_
  intro Γ T G X
  obtain ⟨SE, SC, SV, SA⟩ := id SS
  show Go Γ n0 _ T (mkF Γ.m 0 #[.val (.ref s)] [])
  refine k_aloadN G X d15_0 (pc' := 1) rfl rfl rfl ?_
  refine k_getF G X (host := "") (Or.inl (w56 hw)) Via.refl SV d15_1 (pc' := 4) rfl (fun T X => ?_)
  refine k_alen G X (z := z) SA hz d15_4 (pc' := 5) rfl ?_
  refine k_aloadN G X d15_5 (pc' := 6) rfl rfl rfl ?_
  refine k_callV G X (argsL := []) (rest := [(.int z)]) rfl SE (w70 hw) (w71 hw) (nf_sel (w73 hw)) (w73 hw) (w72 hw) (w12 hw) (w74 hw) (by decide) (str_cod1 hw s b k n z cs _ h0 n0 _ SS hz S_CS hcs) d15_6 pd8 rfl (pc' := 9) rfl rfl (wd := 1) rfl (by decide) (by decide) (by decide) (by decide) (fun T h6 v sf6 X q => ?_)
  replace X := W.drop X
  obtain ⟨rfl, e6⟩ := q
  replace X := X.eq e6
  show Go Γ n0 _ T (mkF Γ.m 9 #[.val (.ref s)] [(.int (0 : Int32)), (.int z)])
  refine k_ishr G X d15_9 (pc' := 10) rfl rfl ?_
  rw [shr0 z]
  refine k_reti G X d15_10 rfl ?_ (by decide) (by decide)
  exact ⟨rfl, rfl⟩
set_option maxRecDepth 65536 in
set_option maxHeartbeats 40000000 in
theorem t_len_u {Z : State} {a0 : Array Value} (hw : HW a0 Z) (s b : Addr) (k : ClassId) (n : Nat) (z z2 cs : Int32) (c : Nat → Int32) (h0 : Heap) (n0 : Nat) (sf0 : List Addr) (SU : Stu Z h0 s b k n c) (hz : z.toInt = n) (hz2 : z2.toInt = (2 * n : Nat)) (S_CS : Sta Z h0 "java/lang/String" "COMPACT_STRINGS" "Z" (.int cs)) (hcs : cs ≠ 0) :
    MetW Z consts_1 sf0 (⟨"java/lang/String", "length", "()I"⟩ : MethodName) jdk_42_method_54_code 1 (some .int) [] ({ frames := 1, cells := 0, slots := 0, locals := 13 } : Room) #[(.ref s)] h0 n0 (fun v h sf => v = some (.int z) ∧ h = h0) := by
  refine k_body (hEW hw) (f := (fun m => mkF m 0 #[.val (.ref s)] [])) pn_15 (fun m => by first | (simp [entryFrame, mkF, argsToLocals, Value.category, maxLocals]; done) | rfl) ?_
  intro Γ T G X
  obtain ⟨SE, SC, SV, B⟩ := id SU
  show Go Γ n0 _ T (mkF Γ.m 0 #[.val (.ref s)] [])
  refine k_aloadN G X d15_0 (pc' := 1) rfl rfl rfl ?_
  refine k_getF G X (host := "") (Or.inl (w56 hw)) Via.refl SV d15_1 (pc' := 4) rfl (fun T X => ?_)
  refine k_alen G X (z := z2) B hz2 d15_4 (pc' := 5) rfl ?_
  refine k_aloadN G X d15_5 (pc' := 6) rfl rfl rfl ?_
  refine k_callV G X (argsL := []) (rest := [(.int z2)]) rfl SE (w70 hw) (w71 hw) (nf_sel (w73 hw)) (w73 hw) (w72 hw) (w12 hw) (w74 hw) (by decide) (u_cod1 hw s b k n cs z2 c h0 n0 _ hz2 SU S_CS hcs) d15_6 pd8 rfl (pc' := 9) rfl rfl (wd := 1) rfl (by decide) (by decide) (by decide) (by decide) (fun T h6 v sf6 X q => ?_)
  replace X := W.drop X
  obtain ⟨rfl, e6⟩ := q
  replace X := X.eq e6
  show Go Γ n0 _ T (mkF Γ.m 9 #[.val (.ref s)] [(.int (1 : Int32)), (.int z2)])
  refine k_ishr G X d15_9 (pc' := 10) rfl rfl ?_
  rw [show z2 >>> ((1 : Int32) &&& 31) = z from of_toInt (by rw [shr1 z2 n hz2, hz])]
  refine k_reti G X d15_10 rfl ?_ (by decide) (by decide)
  exact ⟨rfl, rfl⟩
theorem t_len {Z : State} {a0 : Array Value} (hw : HW a0 Z) (s : Addr) (n : Nat) (z z2 cs : Int32) (c : Nat → Int32) (h0 : Heap) (n0 : Nat) (sf0 : List Addr) (TT : Txt Z h0 s n c) (hz : z.toInt = n) (hz2 : z2.toInt = (2 * n : Nat)) (S_CS : Sta Z h0 "java/lang/String" "COMPACT_STRINGS" "Z" (.int cs)) (hcs : cs ≠ 0) :
    MetW Z consts_1 sf0 (⟨"java/lang/String", "length", "()I"⟩ : MethodName) jdk_42_method_54_code 1 (some .int) [] ({ frames := 1, cells := 0, slots := 0, locals := 13 } : Room) #[(.ref s)] h0 n0 (fun v h sf => v = some (.int z) ∧ h = h0) := by
  rcases TT with ⟨b, k, SS, hl⟩ | ⟨b, k, SU⟩
  · exact t_len_l hw s b k n z z2 cs c h0 n0 sf0 SS hl hz hz2 S_CS hcs
  · exact t_len_u hw s b k n z z2 cs c h0 n0 sf0 SU hz hz2 S_CS hcs
theorem pn_21 : plainFor (⟨"java/lang/StringUTF16", "checkIndex", "(I[B)V"⟩ : MethodName) = true := plainFor_of_name (by first | (simp [plainName, overriddenIn]; done) | decide +kernel)
set_option maxRecDepth 65536 in
set_option maxHeartbeats 40000000 in
theorem u_chk {Z : State} {a0 : Array Value} (hw : HW a0 Z) (b : Addr) (k : ClassId) (n i : Nat) (z z2 j : Int32) (fm : Value) (f : Nat → Value) (h0 : Heap) (n0 : Nat) (sf0 : List Addr) (B : Arf Z h0 b k .byte (2 * n) f) (hz : z.toInt = n) (hz2 : z2.toInt = (2 * n : Nat)) (hji : j.toInt = i) (hin : i < n) (S_FM : Sta Z h0 "jdk/internal/util/Preconditions" "SIOOBE_FORMATTER" "Ljava/util/function/BiFunction;" fm) (hfm : fm.isRef = true) :
    MetW Z consts_1 sf0 (⟨"java/lang/StringUTF16", "checkIndex", "(I[B)V"⟩ : MethodName) jdk_52_method_91_code 2 none [] ({ frames := 2, cells := 0, slots := 0, locals := 27 } : Room) #[(.int j), (.ref b)] h0 n0 (fun v h sf => v = none ∧ h = h0) := by
  refine k_body (hEW hw) (f := (fun m => mkF m 0 #[.val (.int j), .val (.ref b)] [])) pn_21 (fun m => by first | (simp [entryFrame, mkF, argsToLocals, Value.category, maxLocals]; done) | rfl) ?_
  intro Γ T G X
  have hj : 0 ≤ j.toInt := by omega
  have hjz : j.toInt < z.toInt := by omega
  show Go Γ n0 _ T (mkF Γ.m 0 #[.val (.int j), .val (.ref b)] [])
  refine k_iloadN G X d21_0 (pc' := 1) rfl rfl ?_
  refine k_aloadN G X d21_1 (pc' := 2) rfl rfl rfl ?_
  refine k_callS G X (argsL := [(.ref b)]) (rest := [(.int j)]) rfl (w94 hw) (w95 hw) (w26 hw) (w96 hw) (by decide) (u_len hw b k n z z2 _ h0 n0 _ B hz hz2) d21_2 pd12 rfl (pc' := 5) rfl rfl (wd := 1) rfl (by decide) (by decide) (by decide) (by decide) (fun T h2 v sf2 X q => ?_)
  replace X := W.drop X
  obtain ⟨rfl, e2⟩ := q
  replace X := X.eq e2
  show Go Γ n0 _ T (mkF Γ.m 5 #[.val (.int j), .val (.ref b)] [(.int z), (.int j)])
  refine k_callS G X (argsL := [(.int j), (.int z)]) (rest := []) rfl (w97 hw) (w98 hw) (w12 hw) (w99 hw) (by decide) (str_chk hw j z fm h0 n0 _ hj hjz S_FM hfm) d21_5 pd10 rfl (pc' := 8) rfl rfl (wd := 0) rfl (by decide) (by decide) (by decide) (by decide) (fun T h5 v sf5 X q => ?_)
  replace X := W.drop X
  obtain ⟨rfl, e5⟩ := q
  replace X := X.eq e5
  show Go Γ n0 _ T (mkF Γ.m 8 #[.val (.int j), .val (.ref b)] [])
  refine k_retv G X d21_8 rfl ?_ (by decide) (by decide)
  exact ⟨rfl, rfl⟩
theorem pn_20 : plainFor (⟨"java/lang/StringUTF16", "charAt", "([BI)C"⟩ : MethodName) = true := plainFor_of_name (by first | (simp [plainName, overriddenIn]; done) | decide +kernel)
set_option maxRecDepth 65536 in
set_option maxHeartbeats 40000000 in
theorem u_cat {Z : State} {a0 : Array Value} (hw : HW a0 Z) (b : Addr) (k : ClassId) (n i : Nat) (z z2 j : Int32) (fm : Value) (c : Nat → Int32) (h0 : Heap) (n0 : Nat) (sf0 : List Addr) (B : Arf Z h0 b k .byte (2 * n) (fun i => .int (ub c i))) (hz : z.toInt = n) (hz2 : z2.toInt = (2 * n : Nat)) (hji : j.toInt = i) (hin : i < n) (S_FM : Sta Z h0 "jdk/internal/util/Preconditions" "SIOOBE_FORMATTER" "Ljava/util/function/BiFunction;" fm) (hfm : fm.isRef = true) (hn9 : n < 1000000) (hc : ∀ i, i < n → 0 ≤ (c i).toInt ∧ (c i).toInt < 65536) (S_AD : Sta Z h0 "java/lang/StringUTF16" "$assertionsDisabled" "Z" (.int 1)) (S_HI : Sta Z h0 "java/lang/StringUTF16" "HI_BYTE_SHIFT" "I" (.int 0)) (S_LO : Sta Z h0 "java/lang/StringUTF16" "LO_BYTE_SHIFT" "I" (.int 8)) :
    MetW Z consts_1 sf0 (⟨"java/lang/StringUTF16", "charAt", "([BI)C"⟩ : MethodName) jdk_52_method_83_code 2 (some .char) [] ({ frames := 3, cells := 0, slots := 0, locals := 40 } : Room) #[(.ref b), (.int j)] h0 n0 (fun v h sf => v = some (.int (c i)) ∧ h = h0) := by
  refine k_body (hEW hw) (f := (fun m => mkF m 0 #[.val (.ref b), .val (.int j)] [])) pn_20 (fun m => by first | (simp [entryFrame, mkF, argsToLocals, Value.category, maxLocals]; done) | rfl) ?_
  intro Γ T G X
  show Go Γ n0 _ T (mkF Γ.m 0 #[.val (.ref b), .val (.int j)] [])
  refine k_iloadN G X d20_0 (pc' := 1) rfl rfl ?_
  refine k_aloadN G X d20_1 (pc' := 2) rfl rfl rfl ?_
  refine k_callS G X (argsL := [(.int j), (.ref b)]) (rest := []) rfl (w91 hw) (w92 hw) (w26 hw) (w93 hw) (by decide) (u_chk hw b k n i z z2 j fm _ h0 n0 _ B hz hz2 hji hin S_FM hfm) d20_2 pd13 rfl (pc' := 5) rfl rfl (wd := 0) rfl (by decide) (by decide) (by decide) (by decide) (fun T h2 v sf2 X q => ?_)
  replace X := W.drop X
  obtain ⟨rfl, e2⟩ := q
  replace X := X.eq e2
  show Go Γ n0 _ T (mkF Γ.m 5 #[.val (.ref b), .val (.int j)] [])
  refine k_aloadN G X d20_5 (pc' := 6) rfl rfl rfl ?_
  refine k_iloadN G X d20_6 (pc' := 7) rfl rfl ?_
  refine k_callS G X (argsL := [(.ref b), (.int j)]) (rest := []) rfl (w48 hw) (w49 hw) (w26 hw) (w50 hw) (by decide) (u_get hw b k n i j c h0 n0 _ B hji hin (by omega) (hc i hin) S_AD S_HI S_LO) d20_7 pd7 rfl (pc' := 10) rfl rfl (wd := 0) rfl (by decide) (by decide) (by decide) (by decide) (fun T h7 v sf7 X q => ?_)
  replace X := W.drop X
  obtain ⟨rfl, e7⟩ := q
  replace X := X.eq e7
  show Go Γ n0 _ T (mkF Γ.m 10 #[.val (.ref b), .val (.int j)] [(.int (c i))])
  refine k_retb G X d20_10 (t := .char) rfl (by simp) (nr_char (hc i hin).1 (hc i hin).2) ?_ (by decide) (by decide)
  exact ⟨rfl, rfl⟩
set_option maxRecDepth 65536 in
set_option maxHeartbeats 40000000 in
theorem t_at_l {Z : State} {a0 : Array Value} (hw : HW a0 Z) (s b : Addr) (k : ClassId) (n i : Nat) (z z2 cs j : Int32) (c : Nat → Int32) (fm : Value) (h0 : Heap) (n0 : Nat) (sf0 : List Addr) (SS : Str Z h0 s b k n (fun i => (c i).toInt8.toInt32)) (hl : ∀ i, i < n → 0 ≤ (c i).toInt ∧ (c i).toInt ≤ 255) (hz : z.toInt = n) (hz2 : z2.toInt = (2 * n : Nat)) (S_CS : Sta Z h0 "java/lang/String" "COMPACT_STRINGS" "Z" (.int cs)) (hcs : cs ≠ 0) (hji : j.toInt = i) (hin : i < n) (hn9 : n < 1000000) (hc : ∀ i, i < n → 0 ≤ (c i).toInt ∧ (c i).toInt < 65536) (S_FM : Sta Z h0 "jdk/internal/util/Preconditions" "SIOOBE_FORMATTER" "Ljava/util/function/BiFunction;" fm) (hfm : fm.isRef = true) (S_AD : Sta Z h0 "java/lang/StringUTF16" "$assertionsDisabled" "Z" (.int 1)) (S_HI : Sta Z h0 "java/lang/StringUTF16" "HI_BYTE_SHIFT" "I" (.int 0)) (S_LO : Sta Z h0 "java/lang/StringUTF16" "LO_BYTE_SHIFT" "I" (.int 8)) :
    MetW Z consts_1 sf0 (⟨"java/lang/String", "charAt", "(I)C"⟩ : MethodName) jdk_42_method_56_code 2 (some .char) [] ({ frames := 4, cells := 0, slots := 0, locals := 53 } : Room) #[(.ref s), (.int j)] h0 n0 (fun v h sf => v = some (.int (c i)) ∧ h = h0) := by
  refine k_body (hEW hw) (f := (fun m => mkF m 0 #[.val (.ref s), .val (.int j)] [])) pn_18 (fun m => by first | (simp [entryFrame, mkF, argsToLocals, Value.category, maxLocals]; done) | rfl) ?_
  intro Γ T G X
  obtain ⟨SE, SC, SV, SA⟩ := id SS
  show Go Γ n0 _ T (mkF Γ.m 0 #[.val (.ref s), .val (.int j)] [])
  refine k_aloadN G X d18_0 (pc' := 1) rfl rfl rfl ?_
  refine k_callV G X (argsL := []) (rest := []) rfl SE (w83 hw) (w84 hw) (nf_sel (w86 hw)) (w86 hw) (w85 hw) (w12 hw) (w87 hw) (by decide) (str_lat hw s b k n z cs _ h0 n0 _ SS hz S_CS hcs) d18_1 pd11 rfl (pc' := 4) rfl rfl (wd := 0) rfl (by decide) (by decide) (by decide) (by decide) (fun T h1 v sf1 X q => ?_)
  replace X := W.drop X
  obtain ⟨rfl, e1⟩ := q
  replace X := X.eq e1
  show Go Γ n0 _ T (mkF Γ.m 4 #[.val (.ref s), .val (.int j)] [(.int (1 : Int32))])
  refine k_if_eq G X d18_4 (pc' := 16) rfl (by decide) (pc'' := 7) rfl (fun c4 => (absurd c4 (by decide))) (fun c4 => ?_)
  refine k_aloadN G X d18_7 (pc' := 8) rfl rfl rfl ?_
  refine k_getF G X (host := "") (Or.inl (w56 hw)) Via.refl SV d18_8 (pc' := 11) rfl (fun T X => ?_)
  refine k_iloadN G X d18_11 (pc' := 12) rfl rfl ?_
  refine k_callS G X (argsL := [(.ref b), (.int j)]) (rest := []) rfl (w146 hw) (w147 hw) (w148 hw) (w149 hw) (by decide) (str_lch hw b k n i z j _ fm h0 n0 _ SS.2.2.2 hz hji hin S_FM hfm) d18_12 pd7 rfl (pc' := 15) rfl rfl (wd := 0) rfl (by decide) (by decide) (by decide) (by decide) (fun T h12 v sf12 X q => ?_)
  replace X := W.drop X
  obtain ⟨r, rfl, hr, e12⟩ := q
  replace X := X.eq e12
  rw [chr_byte (hl i hin).1 (hl i hin).2] at hr
  obtain rfl : c i = r := of_toInt hr.symm
  show Go Γ n0 _ T (mkF Γ.m 15 #[.val (.ref s), .val (.int j)] [(.int (c i))])
  refine k_retb G X d18_15 (t := .char) rfl (by simp) (nr_char (hc i hin).1 (hc i hin).2) ?_ (by decide) (by decide)
  exact ⟨rfl, rfl⟩
set_option maxRecDepth 65536 in
set_option maxHeartbeats 40000000 in
theorem t_at_u {Z : State} {a0 : Array Value} (hw : HW a0 Z) (s b : Addr) (k : ClassId) (n i : Nat) (z z2 cs j : Int32) (c : Nat → Int32) (fm : Value) (h0 : Heap) (n0 : Nat) (sf0 : List Addr) (SU : Stu Z h0 s b k n c) (hz : z.toInt = n) (hz2 : z2.toInt = (2 * n : Nat)) (S_CS : Sta Z h0 "java/lang/String" "COMPACT_STRINGS" "Z" (.int cs)) (hcs : cs ≠ 0) (hji : j.toInt = i) (hin : i < n) (hn9 : n < 1000000) (hc : ∀ i, i < n → 0 ≤ (c i).toInt ∧ (c i).toInt < 65536) (S_FM : Sta Z h0 "jdk/internal/util/Preconditions" "SIOOBE_FORMATTER" "Ljava/util/function/BiFunction;" fm) (hfm : fm.isRef = true) (S_AD : Sta Z h0 "java/lang/StringUTF16" "$assertionsDisabled" "Z" (.int 1)) (S_HI : Sta Z h0 "java/lang/StringUTF16" "HI_BYTE_SHIFT" "I" (.int 0)) (S_LO : Sta Z h0 "java/lang/StringUTF16" "LO_BYTE_SHIFT" "I" (.int 8)) :
    MetW Z consts_1 sf0 (⟨"java/lang/String", "charAt", "(I)C"⟩ : MethodName) jdk_42_method_56_code 2 (some .char) [] ({ frames := 4, cells := 0, slots := 0, locals := 53 } : Room) #[(.ref s), (.int j)] h0 n0 (fun v h sf => v = some (.int (c i)) ∧ h = h0) := by
  refine k_body (hEW hw) (f := (fun m => mkF m 0 #[.val (.ref s), .val (.int j)] [])) pn_18 (fun m => by first | (simp [entryFrame, mkF, argsToLocals, Value.category, maxLocals]; done) | rfl) ?_
  intro Γ T G X
  obtain ⟨SE, SC, SV, B⟩ := id SU
  show Go Γ n0 _ T (mkF Γ.m 0 #[.val (.ref s), .val (.int j)] [])
  refine k_aloadN G X d18_0 (pc' := 1) rfl rfl rfl ?_
  refine k_callV G X (argsL := []) (rest := []) rfl SE (w83 hw) (w84 hw) (nf_sel (w86 hw)) (w86 hw) (w85 hw) (w12 hw) (w87 hw) (by decide) (u_lat hw s b k n cs z2 c h0 n0 _ hz2 SU S_CS hcs) d18_1 pd11 rfl (pc' := 4) rfl rfl (wd := 0) rfl (by decide) (by decide) (by decide) (by decide) (fun T h1 v sf1 X q => ?_)
  replace X := W.drop X
  obtain ⟨rfl, e1⟩ := q
  replace X := X.eq e1
  show Go Γ n0 _ T (mkF Γ.m 4 #[.val (.ref s), .val (.int j)] [(.int (0 : Int32))])
  refine k_if_eq G X d18_4 (pc' := 16) rfl (by decide) (pc'' := 7) rfl (fun c4 => ?_) (fun c4 => (absurd c4 (by decide)))
  refine k_aloadN G X d18_16 (pc' := 17) rfl rfl rfl ?_
  refine k_getF G X (host := "") (Or.inl (w56 hw)) Via.refl SV d18_17 (pc' := 20) rfl (fun T X => ?_)
  refine k_iloadN G X d18_20 (pc' := 21) rfl rfl ?_
  refine k_callS G X (argsL := [(.ref b), (.int j)]) (rest := []) rfl (w88 hw) (w89 hw) (w26 hw) (w90 hw) (by decide) (u_cat hw b k n i z z2 j fm c h0 n0 _ B hz hz2 hji hin S_FM hfm hn9 hc S_AD S_HI S_LO) d18_21 pd7 rfl (pc' := 24) rfl rfl (wd := 0) rfl (by decide) (by decide) (by decide) (by decide) (fun T h21 v sf21 X q => ?_)
  replace X := W.drop X
  obtain ⟨rfl, e21⟩ := q
  replace X := X.eq e21
  show Go Γ n0 _ T (mkF Γ.m 24 #[.val (.ref s), .val (.int j)] [(.int (c i))])
  refine k_retb G X d18_24 (t := .char) rfl (by simp) (nr_char (hc i hin).1 (hc i hin).2) ?_ (by decide) (by decide)
  exact ⟨rfl, rfl⟩
theorem t_at {Z : State} {a0 : Array Value} (hw : HW a0 Z) (s : Addr) (n i : Nat) (z z2 cs j : Int32) (c : Nat → Int32) (fm : Value) (h0 : Heap) (n0 : Nat) (sf0 : List Addr) (TT : Txt Z h0 s n c) (hz : z.toInt = n) (hz2 : z2.toInt = (2 * n : Nat)) (S_CS : Sta Z h0 "java/lang/String" "COMPACT_STRINGS" "Z" (.int cs)) (hcs : cs ≠ 0) (hji : j.toInt = i) (hin : i < n) (hn9 : n < 1000000) (hc : ∀ i, i < n → 0 ≤ (c i).toInt ∧ (c i).toInt < 65536) (S_FM : Sta Z h0 "jdk/internal/util/Preconditions" "SIOOBE_FORMATTER" "Ljava/util/function/BiFunction;" fm) (hfm : fm.isRef = true) (S_AD : Sta Z h0 "java/lang/StringUTF16" "$assertionsDisabled" "Z" (.int 1)) (S_HI : Sta Z h0 "java/lang/StringUTF16" "HI_BYTE_SHIFT" "I" (.int 0)) (S_LO : Sta Z h0 "java/lang/StringUTF16" "LO_BYTE_SHIFT" "I" (.int 8)) :
    MetW Z consts_1 sf0 (⟨"java/lang/String", "charAt", "(I)C"⟩ : MethodName) jdk_42_method_56_code 2 (some .char) [] ({ frames := 4, cells := 0, slots := 0, locals := 53 } : Room) #[(.ref s), (.int j)] h0 n0 (fun v h sf => v = some (.int (c i)) ∧ h = h0) := by
  rcases TT with ⟨b, k, SS, hl⟩ | ⟨b, k, SU⟩
  · exact t_at_l hw s b k n i z z2 cs j c fm h0 n0 sf0 SS hl hz hz2 S_CS hcs hji hin hn9 hc S_FM hfm S_AD S_HI S_LO
  · exact t_at_u hw s b k n i z z2 cs j c fm h0 n0 sf0 SU hz hz2 S_CS hcs hji hin hn9 hc S_FM hfm S_AD S_HI S_LO
theorem pn_29 : plainFor (⟨"java/lang/Character", "isHighSurrogate", "(C)Z"⟩ : MethodName) = true := plainFor_of_name (by first | (simp [plainName, overriddenIn]; done) | decide +kernel)
set_option maxRecDepth 65536 in
set_option maxHeartbeats 40000000 in
theorem ch_hi {Z : State} {a0 : Array Value} (hw : HW a0 Z) (x : Int32) (h0 : Heap) (n0 : Nat) (sf0 : List Addr) :
    MetW Z consts_1 sf0 (⟨"java/lang/Character", "isHighSurrogate", "(C)Z"⟩ : MethodName) jdk_89_method_14_code 1 (some .boolean) [] ({ frames := 0, cells := 0, slots := 0, locals := 0 } : Room) #[(.int x)] h0 n0 (fun v h sf => ∃ r : Int32, v = some (.int r) ∧ (55296 ≤ x.toInt ∧ x.toInt < 56320 → r = 1) ∧ (¬ (55296 ≤ x.toInt ∧ x.toInt < 56320) → r = 0) ∧ h = h0) := by
  refine k_body (hEW hw) (f := (fun m => mkF m 0 #[.val (.int x)] [])) pn_29 (fun m => by first | (simp [entryFrame, mkF, argsToLocals, Value.category, maxLocals]; done) | rfl) ?_
  intro Γ T G X
  have e1 : (55296 : Int32).toInt = 55296 := rfl
  have e2 : (56320 : Int32).toInt = 56320 := rfl
  show Go Γ n0 _ T (mkF Γ.m 0 #[.val (.int x)] [])
  refine k_iloadN G X d29_0 (pc' := 1) rfl rfl ?_
  refine k_ldcI G X (w109 hw) d29_1 (pc' := 3) rfl ?_
  refine k_icmp_lt G X d29_3 (pc' := 16) rfl (by decide) (pc'' := 6) rfl (fun c3 => ?_) (fun c3 => ?_)
  · refine k_iconst G X d29_16 (pc' := 17) rfl (z := (0 : Int32)) (by decide) ?_
    refine k_retb G X d29_17 (t := .boolean) rfl (by simp) rfl ?_ (by decide) (by decide)
    exact ⟨_, rfl, by intro q; first | rfl | omega, by intro q; first | rfl | omega, rfl⟩
  · refine k_iloadN G X d29_6 (pc' := 7) rfl rfl ?_
    refine k_ldcI G X (w137 hw) d29_7 (pc' := 9) rfl ?_
    refine k_icmp_ge G X d29_9 (pc' := 16) rfl (by decide) (pc'' := 12) rfl (fun c9 => ?_) (fun c9 => ?_)
    · refine k_iconst G X d29_16 (pc' := 17) rfl (z := (0 : Int32)) (by decide) ?_
      refine k_retb G X d29_17 (t := .boolean) rfl (by simp) rfl ?_ (by decide) (by decide)
      exact ⟨_, rfl, by intro q; first | rfl | omega, by intro q; first | rfl | omega, rfl⟩
    · refine k_iconst G X d29_12 (pc' := 13) rfl (z := (1 : Int32)) (by decide) ?_
      refine k_goto G X d29_13 (by decide) (pc' := 17) rfl ?_
      refine k_retb G X d29_17 (t := .boolean) rfl (by simp) rfl ?_ (by decide) (by decide)
      exact ⟨_, rfl, by intro q; first | rfl | omega, by intro q; first | rfl | omega, rfl⟩
theorem pn_31 : plainFor (⟨"java/lang/Character", "isLowSurrogate", "(C)Z"⟩ : MethodName) = true := plainFor_of_name (by first | (simp [plainName, overriddenIn]; done) | decide +kernel)
set_option maxRecDepth 65536 in
set_option maxHeartbeats 40000000 in
theorem ch_lo {Z : State} {a0 : Array Value} (hw : HW a0 Z) (x : Int32) (h0 : Heap) (n0 : Nat) (sf0 : List Addr) :
    MetW Z consts_1 sf0 (⟨"java/lang/Character", "isLowSurrogate", "(C)Z"⟩ : MethodName) jdk_89_method_15_code 1 (some .boolean) [] ({ frames := 0, cells := 0, slots := 0, locals := 0 } : Room) #[(.int x)] h0 n0 (fun v h sf => ∃ r : Int32, v = some (.int r) ∧ (56320 ≤ x.toInt ∧ x.toInt < 57344 → r = 1) ∧ (¬ (56320 ≤ x.toInt ∧ x.toInt < 57344) → r = 0) ∧ h = h0) := by
  refine k_body (hEW hw) (f := (fun m => mkF m 0 #[.val (.int x)] [])) pn_31 (fun m => by first | (simp [entryFrame, mkF, argsToLocals, Value.category, maxLocals]; done) | rfl) ?_
  intro Γ T G X
  have e1 : (56320 : Int32).toInt = 56320 := rfl
  have e2 : (57344 : Int32).toInt = 57344 := rfl
  show Go Γ n0 _ T (mkF Γ.m 0 #[.val (.int x)] [])
  refine k_iloadN G X d31_0 (pc' := 1) rfl rfl ?_
  refine k_ldcI G X (w137 hw) d31_1 (pc' := 3) rfl ?_
  refine k_icmp_lt G X d31_3 (pc' := 16) rfl (by decide) (pc'' := 6) rfl (fun c3 => ?_) (fun c3 => ?_)
  · refine k_iconst G X d31_16 (pc' := 17) rfl (z := (0 : Int32)) (by decide) ?_
    refine k_retb G X d31_17 (t := .boolean) rfl (by simp) rfl ?_ (by decide) (by decide)
    exact ⟨_, rfl, by intro q; first | rfl | omega, by intro q; first | rfl | omega, rfl⟩
  · refine k_iloadN G X d31_6 (pc' := 7) rfl rfl ?_
    refine k_ldcI G X (w136 hw) d31_7 (pc' := 9) rfl ?_
    refine k_icmp_ge G X d31_9 (pc' := 16) rfl (by decide) (pc'' := 12) rfl (fun c9 => ?_) (fun c9 => ?_)
    · refine k_iconst G X d31_16 (pc' := 17) rfl (z := (0 : Int32)) (by decide) ?_
      refine k_retb G X d31_17 (t := .boolean) rfl (by simp) rfl ?_ (by decide) (by decide)
      exact ⟨_, rfl, by intro q; first | rfl | omega, by intro q; first | rfl | omega, rfl⟩
    · refine k_iconst G X d31_12 (pc' := 13) rfl (z := (1 : Int32)) (by decide) ?_
      refine k_goto G X d31_13 (by decide) (pc' := 17) rfl ?_
      refine k_retb G X d31_17 (t := .boolean) rfl (by simp) rfl ?_ (by decide) (by decide)
      exact ⟨_, rfl, by intro q; first | rfl | omega, by intro q; first | rfl | omega, rfl⟩
theorem pn_25 : plainFor (⟨"java/lang/Character", "isSurrogate", "(C)Z"⟩ : MethodName) = true := plainFor_of_name (by first | (simp [plainName, overriddenIn]; done) | decide +kernel)
set_option maxRecDepth 65536 in
set_option maxHeartbeats 40000000 in
theorem ch_su {Z : State} {a0 : Array Value} (hw : HW a0 Z) (x : Int32) (h0 : Heap) (n0 : Nat) (sf0 : List Addr) :
    MetW Z consts_1 sf0 (⟨"java/lang/Character", "isSurrogate", "(C)Z"⟩ : MethodName) jdk_89_method_16_code 1 (some .boolean) [] ({ frames := 0, cells := 0, slots := 0, locals := 0 } : Room) #[(.int x)] h0 n0 (fun v h sf => ∃ r : Int32, v = some (.int r) ∧ (55296 ≤ x.toInt ∧ x.toInt < 57344 → r = 1) ∧ (¬ (55296 ≤ x.toInt ∧ x.toInt < 57344) → r = 0) ∧ h = h0) := by
  refine k_body (hEW hw) (f := (fun m => mkF m 0 #[.val (.int x)] [])) pn_25 (fun m => by first | (simp [entryFrame, mkF, argsToLocals, Value.category, maxLocals]; done) | rfl) ?_
  intro Γ T G X
  have e1 : (55296 : Int32).toInt = 55296 := rfl
  have e2 : (57344 : Int32).toInt = 57344 := rfl
  show Go Γ n0 _ T (mkF Γ.m 0 #[.val (.int x)] [])
  refine k_iloadN G X d25_0 (pc' := 1) rfl rfl ?_
  refine k_ldcI G X (w109 hw) d25_1 (pc' := 3) rfl ?_
  refine k_icmp_lt G X d25_3 (pc' := 16) rfl (by decide) (pc'' := 6) rfl (fun c3 => ?_) (fun c3 => ?_)
  · refine k_iconst G X d25_16 (pc' := 17) rfl (z := (0 : Int32)) (by decide) ?_
    refine k_retb G X d25_17 (t := .boolean) rfl (by simp) rfl ?_ (by decide) (by decide)
    exact ⟨_, rfl, by intro q; first | rfl | omega, by intro q; first | rfl | omega, rfl⟩
  · refine k_iloadN G X d25_6 (pc' := 7) rfl rfl ?_
    refine k_ldcI G X (w136 hw) d25_7 (pc' := 9) rfl ?_
    refine k_icmp_ge G X d25_9 (pc' := 16) rfl (by decide) (pc'' := 12) rfl (fun c9 => ?_) (fun c9 => ?_)
    · refine k_iconst G X d25_16 (pc' := 17) rfl (z := (0 : Int32)) (by decide) ?_
      refine k_retb G X d25_17 (t := .boolean) rfl (by simp) rfl ?_ (by decide) (by decide)
      exact ⟨_, rfl, by intro q; first | rfl | omega, by intro q; first | rfl | omega, rfl⟩
    · refine k_iconst G X d25_12 (pc' := 13) rfl (z := (1 : Int32)) (by decide) ?_
      refine k_goto G X d25_13 (by decide) (pc' := 17) rfl ?_
      refine k_retb G X d25_17 (t := .boolean) rfl (by simp) rfl ?_ (by decide) (by decide)
      exact ⟨_, rfl, by intro q; first | rfl | omega, by intro q; first | rfl | omega, rfl⟩
theorem pn_30 : plainFor (⟨"java/lang/Character", "charCount", "(I)I"⟩ : MethodName) = true := plainFor_of_name (by first | (simp [plainName, overriddenIn]; done) | decide +kernel)
set_option maxRecDepth 65536 in
set_option maxHeartbeats 40000000 in
theorem ch_ct {Z : State} {a0 : Array Value} (hw : HW a0 Z) (x : Int32) (h0 : Heap) (n0 : Nat) (sf0 : List Addr) :
    MetW Z consts_1 sf0 (⟨"java/lang/Character", "charCount", "(I)I"⟩ : MethodName) jdk_89_method_18_code 1 (some .int) [] ({ frames := 0, cells := 0, slots := 0, locals := 0 } : Room) #[(.int x)] h0 n0 (fun v h sf => ∃ r : Int32, v = some (.int r) ∧ (x.toInt < 65536 → r = 1) ∧ (65536 ≤ x.toInt → r = 2) ∧ h = h0) := by
  refine k_body (hEW hw) (f := (fun m => mkF m 0 #[.val (.int x)] [])) pn_30 (fun m => by first | (simp [entryFrame, mkF, argsToLocals, Value.category, maxLocals]; done) | rfl) ?_
  intro Γ T G X
  have e1 : (65536 : Int32).toInt = 65536 := rfl
  show Go Γ n0 _ T (mkF Γ.m 0 #[.val (.int x)] [])
  refine k_iloadN G X d30_0 (pc' := 1) rfl rfl ?_
  refine k_ldcI G X (w128 hw) d30_1 (pc' := 3) rfl ?_
  refine k_icmp_lt G X d30_3 (pc' := 10) rfl (by decide) (pc'' := 6) rfl (fun c3 => ?_) (fun c3 => ?_)
  · refine k_iconst G X d30_10 (pc' := 11) rfl (z := (1 : Int32)) (by decide) ?_
    refine k_reti G X d30_11 rfl ?_ (by decide) (by decide)
    exact ⟨_, rfl, by intro q; first | rfl | omega, by intro q; first | rfl | omega, rfl⟩
  · refine k_iconst G X d30_6 (pc' := 7) rfl (z := (2 : Int32)) (by decide) ?_
    refine k_goto G X d30_7 (by decide) (pc' := 11) rfl ?_
    refine k_reti G X d30_11 rfl ?_ (by decide) (by decide)
    exact ⟨_, rfl, by intro q; first | rfl | omega, by intro q; first | rfl | omega, rfl⟩
theorem pn_32 : plainFor (⟨"java/lang/Character", "toCodePoint", "(CC)I"⟩ : MethodName) = true := plainFor_of_name (by first | (simp [plainName, overriddenIn]; done) | decide +kernel)
set_option maxRecDepth 65536 in
set_option maxHeartbeats 40000000 in
theorem ch_cp {Z : State} {a0 : Array Value} (hw : HW a0 Z) (x y : Int32) (h0 : Heap) (n0 : Nat) (sf0 : List Addr) :
    MetW Z consts_1 sf0 (⟨"java/lang/Character", "toCodePoint", "(CC)I"⟩ : MethodName) jdk_89_method_19_code 2 (some .int) [] ({ frames := 0, cells := 0, slots := 0, locals := 0 } : Room) #[(.int x), (.int y)] h0 n0 (fun v h sf => v = some (.int (cpJ x y)) ∧ h = h0) := by
  refine k_body (hEW hw) (f := (fun m => mkF m 0 #[.val (.int x), .val (.int y)] [])) pn_32 (fun m => by first | (simp [entryFrame, mkF, argsToLocals, Value.category, maxLocals]; done) | rfl) ?_
  intro Γ T G X
  show Go Γ n0 _ T (mkF Γ.m 0 #[.val (.int x), .val (.int y)] [])
  refine k_iloadN G X d32_0 (pc' := 1) rfl rfl ?_
  refine k_bipush G X d32_1 (pc' := 3) rfl (z := (10 : Int32)) (by decide) ?_
  refine k_ishl G X d32_3 (pc' := 4) rfl rfl ?_
  refine k_iloadN G X d32_4 (pc' := 5) rfl rfl ?_
  refine k_iadd G X d32_5 (pc' := 6) rfl rfl ?_
  refine k_ldcI G X (w144 hw) d32_6 (pc' := 8) rfl ?_
  refine k_iadd G X d32_8 (pc' := 9) rfl rfl ?_
  refine k_reti G X d32_9 rfl ?_ (by decide) (by decide)
  exact ⟨rfl, rfl⟩
theorem pn_28 : plainFor (⟨"java/lang/StringUTF16", "codePointAt", "([BIIZ)I"⟩ : MethodName) = true := plainFor_of_name (by first | (simp [plainName, overriddenIn]; done) | decide +kernel)
set_option maxRecDepth 65536 in
set_option maxHeartbeats 40000000 in
theorem u_cp4 {Z : State} {a0 : Array Value} (hw : HW a0 Z) (b : Addr) (k : ClassId) (n i : Nat) (z j : Int32) (c : Nat → Int32) (h0 : Heap) (n0 : Nat) (sf0 : List Addr) (B : Arf Z h0 b k .byte (2 * n) (fun i => .int (ub c i))) (hz : z.toInt = n) (hji : j.toInt = i) (hin : i < n) (hn9 : n < 1000000) (hc : ∀ i, i < n → 0 ≤ (c i).toInt ∧ (c i).toInt < 65536) (S_AD : Sta Z h0 "java/lang/StringUTF16" "$assertionsDisabled" "Z" (.int 1)) (S_HI : Sta Z h0 "java/lang/StringUTF16" "HI_BYTE_SHIFT" "I" (.int 0)) (S_LO : Sta Z h0 "java/lang/StringUTF16" "LO_BYTE_SHIFT" "I" (.int 8)) :
    MetW Z consts_1 sf0 (⟨"java/lang/StringUTF16", "codePointAt", "([BIIZ)I"⟩ : MethodName) jdk_52_method_7_code 6 (some .int) [] ({ frames := 1, cells := 0, slots := 0, locals := 13 } : Room) #[(.ref b), (.int j), (.int z), (.int (0 : Int32))] h0 n0 (fun v h sf => v = some (.int (cpA c n i)) ∧ h = h0) := by
  refine k_body (hEW hw) (f := (fun m => mkF m 0 #[.val (.ref b), .val (.int j), .val (.int z), .val (.int (0 : Int32)), .unset, .unset] [])) pn_28 (fun m => by first | (simp [entryFrame, mkF, argsToLocals, Value.category, maxLocals]; done) | rfl) ?_
  intro Γ T G X
  show Go Γ n0 _ T (mkF Γ.m 0 #[.val (.ref b), .val (.int j), .val (.int z), .val (.int (0 : Int32)), .unset, .unset] [])
  refine k_getS G X (host := "") (Or.inl (w45 hw)) Via.refl S_AD d28_0 (pc' := 3) rfl (fun T X => ?_)
  refine k_if_ne G X d28_3 (pc' := 19) rfl (by decide) (pc'' := 6) rfl (fun c3 => ?_) (fun c3 => (absurd c3 (by decide)))
  refine k_iloadN G X d28_19 (pc' := 20) rfl rfl ?_
  refine k_if_eq G X d28_20 (pc' := 28) rfl (by decide) (pc'' := 23) rfl (fun c20 => ?_) (fun c20 => (absurd c20 (by decide)))
  refine k_aloadN G X d28_28 (pc' := 29) rfl rfl rfl ?_
  refine k_iloadN G X d28_29 (pc' := 30) rfl rfl ?_
  refine k_callS G X (argsL := [(.ref b), (.int j)]) (rest := []) rfl (w48 hw) (w49 hw) (w26 hw) (w50 hw) (by decide) (u_get hw b k n i j c h0 n0 _ B hji hin hn9 (hc i hin) S_AD S_HI S_LO) d28_30 pd7 rfl (pc' := 33) rfl rfl (wd := 0) rfl (by decide) (by decide) (by decide) (by decide) (fun T h30 v sf30 X q => ?_)
  replace X := W.drop X
  obtain ⟨rfl, e30⟩ := q
  replace X := X.eq e30
  show Go Γ n0 _ T (mkF Γ.m 33 #[.val (.ref b), .val (.int j), .val (.int z), .val (.int (0 : Int32)), .unset, .unset] [(.int (c i))])
  refine k_istore G X d28_33 (pc' := 35) rfl (l' := #[.val (.ref b), .val (.int j), .val (.int z), .val (.int (0 : Int32)), .val (.int (c i)), .unset]) rfl ?_
  refine k_iload G X d28_35 (pc' := 37) rfl rfl ?_
  refine k_callS G X (argsL := [(.int (c i))]) (rest := []) rfl (w122 hw) (w123 hw) (w107 hw) (w124 hw) (by decide) (ch_hi hw (c i) h0 n0 _) d28_37 pd14 rfl (pc' := 40) rfl rfl (wd := 0) rfl (by decide) (by decide) (by decide) (by decide) (fun T h37 v sf37 X q => ?_)
  replace X := W.drop X
  obtain ⟨r37, rfl, p37, m37, e37⟩ := q
  replace X := X.eq e37
  show Go Γ n0 _ T (mkF Γ.m 40 #[.val (.ref b), .val (.int j), .val (.int z), .val (.int (0 : Int32)), .val (.int (c i)), .unset] [(.int r37)])
  refine k_if_eq G X d28_40 (pc' := 83) rfl (by decide) (pc'' := 43) rfl (fun c40 => ?_) (fun c40 => ?_)
  · refine k_iload G X d28_83 (pc' := 85) rfl rfl ?_
    refine k_reti G X d28_85 rfl ?_ (by decide) (by decide)
    refine ⟨?_, rfl⟩
    unfold cpA
    rw [if_neg]
    rintro ⟨q1, q2, q3⟩
    first | exact absurd (c40 ▸ p37 q1) (by decide) | omega | exact absurd (c72 ▸ p69 q3) (by decide)
  · refine k_iinc G X d28_43 (pc' := 46) rfl rfl (z := (j + (1 : Int32))) rfl (l' := #[.val (.ref b), .val (.int (j + (1 : Int32))), .val (.int z), .val (.int (0 : Int32)), .val (.int (c i)), .unset]) rfl ?_
    have hj1 : (j + (1 : Int32)).toInt = (i + 1 : Nat) := by rw [iadd_toInt (by rw [show (1 : Int32).toInt = 1 from rfl]; omega) (by rw [show (1 : Int32).toInt = 1 from rfl]; omega), hji]; rfl
    refine k_iloadN G X d28_46 (pc' := 47) rfl rfl ?_
    refine k_iloadN G X d28_47 (pc' := 48) rfl rfl ?_
    refine k_icmp_ge G X d28_48 (pc' := 83) rfl (by decide) (pc'' := 51) rfl (fun c48 => ?_) (fun c48 => ?_)
    · refine k_iload G X d28_83 (pc' := 85) rfl rfl ?_
      refine k_reti G X d28_85 rfl ?_ (by decide) (by decide)
      refine ⟨?_, rfl⟩
      unfold cpA
      rw [if_neg]
      rintro ⟨q1, q2, q3⟩
      first | exact absurd (c40 ▸ p37 q1) (by decide) | omega | exact absurd (c72 ▸ p69 q3) (by decide)
    · refine k_iloadN G X d28_51 (pc' := 52) rfl rfl ?_
      refine k_if_eq G X d28_52 (pc' := 60) rfl (by decide) (pc'' := 55) rfl (fun c52 => ?_) (fun c52 => (absurd c52 (by decide)))
      refine k_aloadN G X d28_60 (pc' := 61) rfl rfl rfl ?_
      refine k_iloadN G X d28_61 (pc' := 62) rfl rfl ?_
      refine k_callS G X (argsL := [(.ref b), (.int (j + (1 : Int32)))]) (rest := []) rfl (w48 hw) (w49 hw) (w26 hw) (w50 hw) (by decide) (u_get hw b k n (i + 1) (j + (1 : Int32)) c h0 n0 _ B hj1 (by omega) hn9 (hc (i + 1) (by omega)) S_AD S_HI S_LO) d28_62 pd7 rfl (pc' := 65) rfl rfl (wd := 0) rfl (by decide) (by decide) (by decide) (by decide) (fun T h62 v sf62 X q => ?_)
      replace X := W.drop X
      obtain ⟨rfl, e62⟩ := q
      replace X := X.eq e62
      show Go Γ n0 _ T (mkF Γ.m 65 #[.val (.ref b), .val (.int (j + (1 : Int32))), .val (.int z), .val (.int (0 : Int32)), .val (.int (c i)), .unset] [(.int (c (i + 1)))])
      refine k_istore G X d28_65 (pc' := 67) rfl (l' := #[.val (.ref b), .val (.int (j + (1 : Int32))), .val (.int z), .val (.int (0 : Int32)), .val (.int (c i)), .val (.int (c (i + 1)))]) rfl ?_
      refine k_iload G X d28_67 (pc' := 69) rfl rfl ?_
      refine k_callS G X (argsL := [(.int (c (i + 1)))]) (rest := []) rfl (w138 hw) (w139 hw) (w107 hw) (w140 hw) (by decide) (ch_lo hw (c (i + 1)) h0 n0 _) d28_69 pd14 rfl (pc' := 72) rfl rfl (wd := 0) rfl (by decide) (by decide) (by decide) (by decide) (fun T h69 v sf69 X q => ?_)
      replace X := W.drop X
      obtain ⟨r69, rfl, p69, m69, e69⟩ := q
      replace X := X.eq e69
      show Go Γ n0 _ T (mkF Γ.m 72 #[.val (.ref b), .val (.int (j + (1 : Int32))), .val (.int z), .val (.int (0 : Int32)), .val (.int (c i)), .val (.int (c (i + 1)))] [(.int r69)])
      refine k_if_eq G X d28_72 (pc' := 83) rfl (by decide) (pc'' := 75) rfl (fun c72 => ?_) (fun c72 => ?_)
      · refine k_iload G X d28_83 (pc' := 85) rfl rfl ?_
        refine k_reti G X d28_85 rfl ?_ (by decide) (by decide)
        refine ⟨?_, rfl⟩
        unfold cpA
        rw [if_neg]
        rintro ⟨q1, q2, q3⟩
        first | exact absurd (c40 ▸ p37 q1) (by decide) | omega | exact absurd (c72 ▸ p69 q3) (by decide)
      · refine k_iload G X d28_75 (pc' := 77) rfl rfl ?_
        refine k_iload G X d28_77 (pc' := 79) rfl rfl ?_
        refine k_callS G X (argsL := [(.int (c i)), (.int (c (i + 1)))]) (rest := []) rfl (w141 hw) (w142 hw) (w107 hw) (w143 hw) (by decide) (ch_cp hw (c i) (c (i + 1)) h0 n0 _) d28_79 pd15 rfl (pc' := 82) rfl rfl (wd := 0) rfl (by decide) (by decide) (by decide) (by decide) (fun T h79 v sf79 X q => ?_)
        replace X := W.drop X
        obtain ⟨rfl, e79⟩ := q
        replace X := X.eq e79
        show Go Γ n0 _ T (mkF Γ.m 82 #[.val (.ref b), .val (.int (j + (1 : Int32))), .val (.int z), .val (.int (0 : Int32)), .val (.int (c i)), .val (.int (c (i + 1)))] [(.int (cpJ (c i) (c (i + 1))))])
        refine k_reti G X d28_82 rfl ?_ (by decide) (by decide)
        refine ⟨?_, rfl⟩
        unfold cpA
        rw [if_pos ⟨Decidable.byContradiction fun q => c40 (m37 q), by omega, Decidable.byContradiction fun q => c72 (m69 q)⟩]
theorem pn_27 : plainFor (⟨"java/lang/StringUTF16", "codePointAt", "([BII)I"⟩ : MethodName) = true := plainFor_of_name (by first | (simp [plainName, overriddenIn]; done) | decide +kernel)
set_option maxRecDepth 65536 in
set_option maxHeartbeats 40000000 in
theorem u_cp3 {Z : State} {a0 : Array Value} (hw : HW a0 Z) (b : Addr) (k : ClassId) (n i : Nat) (z j : Int32) (c : Nat → Int32) (h0 : Heap) (n0 : Nat) (sf0 : List Addr) (B : Arf Z h0 b k .byte (2 * n) (fun i => .int (ub c i))) (hz : z.toInt = n) (hji : j.toInt = i) (hin : i < n) (hn9 : n < 1000000) (hc : ∀ i, i < n → 0 ≤ (c i).toInt ∧ (c i).toInt < 65536) (S_AD : Sta Z h0 "java/lang/StringUTF16" "$assertionsDisabled" "Z" (.int 1)) (S_HI : Sta Z h0 "java/lang/StringUTF16" "HI_BYTE_SHIFT" "I" (.int 0)) (S_LO : Sta Z h0 "java/lang/StringUTF16" "LO_BYTE_SHIFT" "I" (.int 8)) :
    MetW Z consts_1 sf0 (⟨"java/lang/StringUTF16", "codePointAt", "([BII)I"⟩ : MethodName) jdk_52_method_8_code 3 (some .int) [] ({ frames := 2, cells := 0, slots := 0, locals := 30 } : Room) #[(.ref b), (.int j), (.int z)] h0 n0 (fun v h sf => v = some (.int (cpA c n i)) ∧ h = h0) := by
  refine k_body (hEW hw) (f := (fun m => mkF m 0 #[.val (.ref b), .val (.int j), .val (.int z)] [])) pn_27 (fun m => by first | (simp [entryFrame, mkF, argsToLocals, Value.category, maxLocals]; done) | rfl) ?_
  intro Γ T G X
  show Go Γ n0 _ T (mkF Γ.m 0 #[.val (.ref b), .val (.int j), .val (.int z)] [])
  refine k_aloadN G X d27_0 (pc' := 1) rfl rfl rfl ?_
  refine k_iloadN G X d27_1 (pc' := 2) rfl rfl ?_
  refine k_iloadN G X d27_2 (pc' := 3) rfl rfl ?_
  refine k_iconst G X d27_3 (pc' := 4) rfl (z := (0 : Int32)) (by decide) ?_
  refine k_callS G X (argsL := [(.ref b), (.int j), (.int z), (.int (0 : Int32))]) (rest := []) rfl (w119 hw) (w120 hw) (w26 hw) (w121 hw) (by decide) (u_cp4 hw b k n i z j c h0 n0 _ B hz hji hin hn9 hc S_AD S_HI S_LO) d27_4 pd16 rfl (pc' := 7) rfl rfl (wd := 0) rfl (by decide) (by decide) (by decide) (by decide) (fun T h4 v sf4 X q => ?_)
  replace X := W.drop X
  obtain ⟨rfl, e4⟩ := q
  replace X := X.eq e4
  show Go Γ n0 _ T (mkF Γ.m 7 #[.val (.ref b), .val (.int j), .val (.int z)] [(.int (cpA c n i))])
  refine k_reti G X d27_7 rfl ?_ (by decide) (by decide)
  exact ⟨rfl, rfl⟩
theorem pn_26 : plainFor (⟨"java/lang/String", "codePointAt", "(I)I"⟩ : MethodName) = true := plainFor_of_name (by first | (simp [plainName, overriddenIn]; done) | decide +kernel)
set_option maxRecDepth 65536 in
set_option maxHeartbeats 40000000 in
theorem t_cp_l {Z : State} {a0 : Array Value} (hw : HW a0 Z) (s b : Addr) (k : ClassId) (n i : Nat) (z z2 cs j : Int32) (c : Nat → Int32) (fm : Value) (h0 : Heap) (n0 : Nat) (sf0 : List Addr) (SS : Str Z h0 s b k n (fun i => (c i).toInt8.toInt32)) (hl : ∀ i, i < n → 0 ≤ (c i).toInt ∧ (c i).toInt ≤ 255) (hz : z.toInt = n) (hz2 : z2.toInt = (2 * n : Nat)) (S_CS : Sta Z h0 "java/lang/String" "COMPACT_STRINGS" "Z" (.int cs)) (hcs : cs ≠ 0) (hji : j.toInt = i) (hin : i < n) (hn9 : n < 1000000) (hc : ∀ i, i < n → 0 ≤ (c i).toInt ∧ (c i).toInt < 65536) (S_FM : Sta Z h0 "jdk/internal/util/Preconditions" "SIOOBE_FORMATTER" "Ljava/util/function/BiFunction;" fm) (hfm : fm.isRef = true) (S_AD : Sta Z h0 "java/lang/StringUTF16" "$assertionsDisabled" "Z" (.int 1)) (S_HI : Sta Z h0 "java/lang/StringUTF16" "HI_BYTE_SHIFT" "I" (.int 0)) (S_LO : Sta Z h0 "java/lang/StringUTF16" "LO_BYTE_SHIFT" "I" (.int 8)) :
    MetW Z consts_1 sf0 (⟨"java/lang/String", "codePointAt", "(I)I"⟩ : MethodName) jdk_42_method_57_code 3 (some .int) [] ({ frames := 3, cells := 0, slots := 0, locals := 44 } : Room) #[(.ref s), (.int j)] h0 n0 (fun v h sf => v = some (.int (cpA c n i)) ∧ h = h0) := by
  refine k_body (hEW hw) (f := (fun m => mkF m 0 #[.val (.ref s), .val (.int j), .unset] [])) pn_26 (fun m => by first | (simp [entryFrame, mkF, argsToLocals, Value.category, maxLocals]; done) | rfl) ?_
  intro Γ T G X
  obtain ⟨SE, SC, SV, SA⟩ := id SS
  have hj : 0 ≤ j.toInt := by omega
  have hjz : j.toInt < z.toInt := by omega
  show Go Γ n0 _ T (mkF Γ.m 0 #[.val (.ref s), .val (.int j), .unset] [])
  refine k_aloadN G X d26_0 (pc' := 1) rfl rfl rfl ?_
  refine k_callV G X (argsL := []) (rest := []) rfl SE (w83 hw) (w84 hw) (nf_sel (w86 hw)) (w86 hw) (w85 hw) (w12 hw) (w87 hw) (by decide) (str_lat hw s b k n z cs _ h0 n0 _ SS hz S_CS hcs) d26_1 pd11 rfl (pc' := 4) rfl rfl (wd := 0) rfl (by decide) (by decide) (by decide) (by decide) (fun T h1 v sf1 X q => ?_)
  replace X := W.drop X
  obtain ⟨rfl, e1⟩ := q
  replace X := X.eq e1
  show Go Γ n0 _ T (mkF Γ.m 4 #[.val (.ref s), .val (.int j), .unset] [(.int (1 : Int32))])
  refine k_if_eq G X d26_4 (pc' := 27) rfl (by decide) (pc'' := 7) rfl (fun c4 => (absurd c4 (by decide))) (fun c4 => ?_)
  refine k_iloadN G X d26_7 (pc' := 8) rfl rfl ?_
  refine k_aloadN G X d26_8 (pc' := 9) rfl rfl rfl ?_
  refine k_getF G X (host := "") (Or.inl (w56 hw)) Via.refl SV d26_9 (pc' := 12) rfl (fun T X => ?_)
  refine k_alen G X (z := z) SA hz d26_12 (pc' := 13) rfl ?_
  refine k_callS G X (argsL := [(.int j), (.int z)]) (rest := []) rfl (w115 hw) (w98 hw) (w12 hw) (w99 hw) (by decide) (str_chk hw j z fm h0 n0 _ hj hjz S_FM hfm) d26_13 pd10 rfl (pc' := 16) rfl rfl (wd := 0) rfl (by decide) (by decide) (by decide) (by decide) (fun T h13 v sf13 X q => ?_)
  replace X := W.drop X
  obtain ⟨rfl, e13⟩ := q
  replace X := X.eq e13
  show Go Γ n0 _ T (mkF Γ.m 16 #[.val (.ref s), .val (.int j), .unset] [])
  refine k_aloadN G X d26_16 (pc' := 17) rfl rfl rfl ?_
  refine k_getF G X (host := "") (Or.inl (w56 hw)) Via.refl SV d26_17 (pc' := 20) rfl (fun T X => ?_)
  refine k_iloadN G X d26_20 (pc' := 21) rfl rfl ?_
  refine k_baload G X (i := i) (v := (.int ((c i).toInt8.toInt32))) SA hji hin rfl d26_21 (pc' := 22) rfl ?_
  refine k_sipush G X d26_22 (pc' := 25) rfl (z := (255 : Int32)) (by decide) ?_
  refine k_iand G X d26_25 (pc' := 26) rfl rfl ?_
  refine k_reti G X d26_26 rfl ?_ (by decide) (by decide)
  refine ⟨?_, rfl⟩
  unfold cpA
  rw [if_neg (fun q => by have := q.1.1; have := (hl i hin).2; omega)]
  exact congrArg (fun x => some (Value.int x)) (of_toInt (by rw [c_mask _ 255 8 (by decide) (by decide)]; exact chr_byte (hl i hin).1 (hl i hin).2))
set_option maxRecDepth 65536 in
set_option maxHeartbeats 40000000 in
theorem t_cp_u {Z : State} {a0 : Array Value} (hw : HW a0 Z) (s b : Addr) (k : ClassId) (n i : Nat) (z z2 cs j : Int32) (c : Nat → Int32) (fm : Value) (h0 : Heap) (n0 : Nat) (sf0 : List Addr) (SU : Stu Z h0 s b k n c) (hz : z.toInt = n) (hz2 : z2.toInt = (2 * n : Nat)) (S_CS : Sta Z h0 "java/lang/String" "COMPACT_STRINGS" "Z" (.int cs)) (hcs : cs ≠ 0) (hji : j.toInt = i) (hin : i < n) (hn9 : n < 1000000) (hc : ∀ i, i < n → 0 ≤ (c i).toInt ∧ (c i).toInt < 65536) (S_FM : Sta Z h0 "jdk/internal/util/Preconditions" "SIOOBE_FORMATTER" "Ljava/util/function/BiFunction;" fm) (hfm : fm.isRef = true) (S_AD : Sta Z h0 "java/lang/StringUTF16" "$assertionsDisabled" "Z" (.int 1)) (S_HI : Sta Z h0 "java/lang/StringUTF16" "HI_BYTE_SHIFT" "I" (.int 0)) (S_LO : Sta Z h0 "java/lang/StringUTF16" "LO_BYTE_SHIFT" "I" (.int 8)) :
    MetW Z consts_1 sf0 (⟨"java/lang/String", "codePointAt", "(I)I"⟩ : MethodName) jdk_42_method_57_code 3 (some .int) [] ({ frames := 3, cells := 0, slots := 0, locals := 44 } : Room) #[(.ref s), (.int j)] h0 n0 (fun v h sf => v = some (.int (cpA c n i)) ∧ h = h0) := by
  refine k_body (hEW hw) (f := (fun m => mkF m 0 #[.val (.ref s), .val (.int j), .unset] [])) pn_26 (fun m => by first | (simp [entryFrame, mkF, argsToLocals, Value.category, maxLocals]; done) | rfl) ?_
  intro Γ T G X
  obtain ⟨SE, SC, SV, B⟩ := id SU
  have hj : 0 ≤ j.toInt := by omega
  have hjz : j.toInt < z.toInt := by omega
  show Go Γ n0 _ T (mkF Γ.m 0 #[.val (.ref s), .val (.int j), .unset] [])
  refine k_aloadN G X d26_0 (pc' := 1) rfl rfl rfl ?_
  refine k_callV G X (argsL := []) (rest := []) rfl SE (w83 hw) (w84 hw) (nf_sel (w86 hw)) (w86 hw) (w85 hw) (w12 hw) (w87 hw) (by decide) (u_lat hw s b k n cs z2 c h0 n0 _ hz2 SU S_CS hcs) d26_1 pd11 rfl (pc' := 4) rfl rfl (wd := 0) rfl (by decide) (by decide) (by decide) (by decide) (fun T h1 v sf1 X q => ?_)
  replace X := W.drop X
  obtain ⟨rfl, e1⟩ := q
  replace X := X.eq e1
  show Go Γ n0 _ T (mkF Γ.m 4 #[.val (.ref s), .val (.int j), .unset] [(.int (0 : Int32))])
  refine k_if_eq G X d26_4 (pc' := 27) rfl (by decide) (pc'' := 7) rfl (fun c4 => ?_) (fun c4 => (absurd c4 (by decide)))
  refine k_aloadN G X d26_27 (pc' := 28) rfl rfl rfl ?_
  refine k_getF G X (host := "") (Or.inl (w56 hw)) Via.refl SV d26_28 (pc' := 31) rfl (fun T X => ?_)
  refine k_alen G X (z := z2) B hz2 d26_31 (pc' := 32) rfl ?_
  refine k_iconst G X d26_32 (pc' := 33) rfl (z := (1 : Int32)) (by decide) ?_
  refine k_ishr G X d26_33 (pc' := 34) rfl rfl ?_
  rw [show z2 >>> ((1 : Int32) &&& 31) = z from of_toInt (by rw [shr1 z2 n hz2, hz])]
  refine k_istoreN G X d26_34 (pc' := 35) rfl (l' := #[.val (.ref s), .val (.int j), .val (.int z)]) rfl ?_
  refine k_iloadN G X d26_35 (pc' := 36) rfl rfl ?_
  refine k_iloadN G X d26_36 (pc' := 37) rfl rfl ?_
  refine k_callS G X (argsL := [(.int j), (.int z)]) (rest := []) rfl (w115 hw) (w98 hw) (w12 hw) (w99 hw) (by decide) (str_chk hw j z fm h0 n0 _ hj hjz S_FM hfm) d26_37 pd10 rfl (pc' := 40) rfl rfl (wd := 0) rfl (by decide) (by decide) (by decide) (by decide) (fun T h37 v sf37 X q => ?_)
  replace X := W.drop X
  obtain ⟨rfl, e37⟩ := q
  replace X := X.eq e37
  show Go Γ n0 _ T (mkF Γ.m 40 #[.val (.ref s), .val (.int j), .val (.int z)] [])
  refine k_aloadN G X d26_40 (pc' := 41) rfl rfl rfl ?_
  refine k_getF G X (host := "") (Or.inl (w56 hw)) Via.refl SV d26_41 (pc' := 44) rfl (fun T X => ?_)
  refine k_iloadN G X d26_44 (pc' := 45) rfl rfl ?_
  refine k_iloadN G X d26_45 (pc' := 46) rfl rfl ?_
  refine k_callS G X (argsL := [(.ref b), (.int j), (.int z)]) (rest := []) rfl (w116 hw) (w117 hw) (w26 hw) (w118 hw) (by decide) (u_cp3 hw b k n i z j c h0 n0 _ B hz hji hin hn9 hc S_AD S_HI S_LO) d26_46 pd17 rfl (pc' := 49) rfl rfl (wd := 0) rfl (by decide) (by decide) (by decide) (by decide) (fun T h46 v sf46 X q => ?_)
  replace X := W.drop X
  obtain ⟨rfl, e46⟩ := q
  replace X := X.eq e46
  show Go Γ n0 _ T (mkF Γ.m 49 #[.val (.ref s), .val (.int j), .val (.int z)] [(.int (cpA c n i))])
  refine k_reti G X d26_49 rfl ?_ (by decide) (by decide)
  exact ⟨rfl, rfl⟩
theorem t_cp {Z : State} {a0 : Array Value} (hw : HW a0 Z) (s : Addr) (n i : Nat) (z z2 cs j : Int32) (c : Nat → Int32) (fm : Value) (h0 : Heap) (n0 : Nat) (sf0 : List Addr) (TT : Txt Z h0 s n c) (hz : z.toInt = n) (hz2 : z2.toInt = (2 * n : Nat)) (S_CS : Sta Z h0 "java/lang/String" "COMPACT_STRINGS" "Z" (.int cs)) (hcs : cs ≠ 0) (hji : j.toInt = i) (hin : i < n) (hn9 : n < 1000000) (hc : ∀ i, i < n → 0 ≤ (c i).toInt ∧ (c i).toInt < 65536) (S_FM : Sta Z h0 "jdk/internal/util/Preconditions" "SIOOBE_FORMATTER" "Ljava/util/function/BiFunction;" fm) (hfm : fm.isRef = true) (S_AD : Sta Z h0 "java/lang/StringUTF16" "$assertionsDisabled" "Z" (.int 1)) (S_HI : Sta Z h0 "java/lang/StringUTF16" "HI_BYTE_SHIFT" "I" (.int 0)) (S_LO : Sta Z h0 "java/lang/StringUTF16" "LO_BYTE_SHIFT" "I" (.int 8)) :
    MetW Z consts_1 sf0 (⟨"java/lang/String", "codePointAt", "(I)I"⟩ : MethodName) jdk_42_method_57_code 3 (some .int) [] ({ frames := 3, cells := 0, slots := 0, locals := 44 } : Room) #[(.ref s), (.int j)] h0 n0 (fun v h sf => v = some (.int (cpA c n i)) ∧ h = h0) := by
  rcases TT with ⟨b, k, SS, hl⟩ | ⟨b, k, SU⟩
  · exact t_cp_l hw s b k n i z z2 cs j c fm h0 n0 sf0 SS hl hz hz2 S_CS hcs hji hin hn9 hc S_FM hfm S_AD S_HI S_LO
  · exact t_cp_u hw s b k n i z z2 cs j c fm h0 n0 sf0 SU hz hz2 S_CS hcs hji hin hn9 hc S_FM hfm S_AD S_HI S_LO
theorem pn_17 : plainFor (⟨"com/example/half_message_commit/halfmessagecommit/protocol/Text", "requireWhole", "(Ljava/lang/String;Ljava/lang/String;I)V"⟩ : MethodName) = true := plainFor_of_name (by first | (simp [plainName, overriddenIn]; done) | decide +kernel)
set_option maxRecDepth 65536 in
set_option maxHeartbeats 40000000 in
theorem rqw {Z : State} {a0 : Array Value} (hw : HW a0 Z) (lb s : Addr) (n i : Nat) (z z2 cs j : Int32) (c : Nat → Int32) (fm : Value) (h0 : Heap) (n0 : Nat) (sf0 : List Addr) (TT : Txt Z h0 s n c) (hz : z.toInt = n) (hz2 : z2.toInt = (2 * n : Nat)) (S_CS : Sta Z h0 "java/lang/String" "COMPACT_STRINGS" "Z" (.int cs)) (hcs : cs ≠ 0) (hn9 : n < 1000000) (hc : ∀ i, i < n → 0 ≤ (c i).toInt ∧ (c i).toInt < 65536) (S_FM : Sta Z h0 "jdk/internal/util/Preconditions" "SIOOBE_FORMATTER" "Ljava/util/function/BiFunction;" fm) (hfm : fm.isRef = true) (S_AD : Sta Z h0 "java/lang/StringUTF16" "$assertionsDisabled" "Z" (.int 1)) (S_HI : Sta Z h0 "java/lang/StringUTF16" "HI_BYTE_SHIFT" "I" (.int 0)) (S_LO : Sta Z h0 "java/lang/StringUTF16" "LO_BYTE_SHIFT" "I" (.int 8)) (hji : j.toInt = i) (hin : i < n) (hwh : 55296 ≤ (c i).toInt ∧ (c i).toInt < 57344 → 65536 ≤ (cpA c n i).toInt) :
    MetW Z consts_1 sf0 (⟨"com/example/half_message_commit/halfmessagecommit/protocol/Text", "requireWhole", "(Ljava/lang/String;Ljava/lang/String;I)V"⟩ : MethodName) prog_26_method_6_code 3 none [] ({ frames := 5, cells := 0, slots := 0, locals := 66 } : Room) #[(.ref lb), (.ref s), (.int j)] h0 n0 (fun v h sf => v = none ∧ h = h0) := by
  refine k_body (hEW hw) (f := (fun m => mkF m 0 #[.val (.ref lb), .val (.ref s), .val (.int j)] [])) pn_17 (fun m => by first | (simp [entryFrame, mkF, argsToLocals, Value.category, maxLocals]; done) | rfl) ?_
  intro Γ T G X
  have SE := TT.exa
  show Go Γ n0 _ T (mkF Γ.m 0 #[.val (.ref lb), .val (.ref s), .val (.int j)] [])
  refine k_aloadN G X d17_0 (pc' := 1) rfl rfl rfl ?_
  refine k_iloadN G X d17_1 (pc' := 2) rfl rfl ?_
  refine k_callV G X (argsL := [(.int j)]) (rest := []) rfl SE (w78 hw) (w79 hw) (nf_sel (w81 hw)) (w81 hw) (w80 hw) (w12 hw) (w82 hw) (by decide) (t_at hw s n i z z2 cs j c fm h0 n0 _ TT hz hz2 S_CS hcs hji hin hn9 hc S_FM hfm S_AD S_HI S_LO) d17_2 pd18 rfl (pc' := 5) rfl rfl (wd := 0) rfl (by decide) (by decide) (by decide) (by decide) (fun T h2 v sf2 X q => ?_)
  replace X := W.drop X
  obtain ⟨rfl, e2⟩ := q
  replace X := X.eq e2
  show Go Γ n0 _ T (mkF Γ.m 5 #[.val (.ref lb), .val (.ref s), .val (.int j)] [(.int (c i))])
  refine k_callS G X (argsL := [(.int (c i))]) (rest := []) rfl (w105 hw) (w106 hw) (w107 hw) (w108 hw) (by decide) (ch_su hw (c i) h0 n0 _) d17_5 pd14 rfl (pc' := 8) rfl rfl (wd := 0) rfl (by decide) (by decide) (by decide) (by decide) (fun T h5 v sf5 X q => ?_)
  replace X := W.drop X
  obtain ⟨r5, rfl, p5, m5, e5⟩ := q
  replace X := X.eq e5
  show Go Γ n0 _ T (mkF Γ.m 8 #[.val (.ref lb), .val (.ref s), .val (.int j)] [(.int r5)])
  refine k_if_eq G X d17_8 (pc' := 40) rfl (by decide) (pc'' := 11) rfl (fun c8 => ?_) (fun c8 => ?_)
  · refine k_retv G X d17_40 rfl ?_ (by decide) (by decide)
    exact ⟨rfl, rfl⟩
  · refine k_aloadN G X d17_11 (pc' := 12) rfl rfl rfl ?_
    refine k_iloadN G X d17_12 (pc' := 13) rfl rfl ?_
    refine k_callV G X (argsL := [(.int j)]) (rest := []) rfl SE (w110 hw) (w111 hw) (nf_sel (w113 hw)) (w113 hw) (w112 hw) (w12 hw) (w114 hw) (by decide) (t_cp hw s n i z z2 cs j c fm h0 n0 _ TT hz hz2 S_CS hcs hji hin hn9 hc S_FM hfm S_AD S_HI S_LO) d17_13 pd4 rfl (pc' := 16) rfl rfl (wd := 0) rfl (by decide) (by decide) (by decide) (by decide) (fun T h13 v sf13 X q => ?_)
    replace X := W.drop X
    obtain ⟨rfl, e13⟩ := q
    replace X := X.eq e13
    show Go Γ n0 _ T (mkF Γ.m 16 #[.val (.ref lb), .val (.ref s), .val (.int j)] [(.int (cpA c n i))])
    refine k_callS G X (argsL := [(.int (cpA c n i))]) (rest := []) rfl (w125 hw) (w126 hw) (w107 hw) (w127 hw) (by decide) (ch_ct hw (cpA c n i) h0 n0 _) d17_16 pd4 rfl (pc' := 19) rfl rfl (wd := 0) rfl (by decide) (by decide) (by decide) (by decide) (fun T h16 v sf16 X q => ?_)
    replace X := W.drop X
    obtain ⟨r16, rfl, p16, m16, e16⟩ := q
    replace X := X.eq e16
    show Go Γ n0 _ T (mkF Γ.m 19 #[.val (.ref lb), .val (.ref s), .val (.int j)] [(.int r16)])
    refine k_iconst G X d17_19 (pc' := 20) rfl (z := (1 : Int32)) (by decide) ?_
    refine k_icmp_ne G X d17_20 (pc' := 40) rfl (by decide) (pc'' := 23) rfl (fun c20 => ?_) (fun c20 => (absurd c20 (fun q => by have h := m16 (hwh (Decidable.byContradiction fun q' => c8 (m5 q'))); rw [h] at q; exact absurd q (by decide))))
    refine k_retv G X d17_40 rfl ?_ (by decide) (by decide)
    exact ⟨rfl, rfl⟩
theorem pn_14 : plainFor (⟨"com/example/half_message_commit/halfmessagecommit/protocol/Text", "utf8Length", "(Ljava/lang/String;Ljava/lang/String;)J"⟩ : MethodName) = true := plainFor_of_name (by first | (simp [plainName, overriddenIn]; done) | decide +kernel)
set_option maxRecDepth 65536 in
set_option maxHeartbeats 40000000 in
theorem utf {Z : State} {a0 : Array Value} (hw : HW a0 Z) (lb s : Addr) (n : Nat) (z z2 cs : Int32) (c : Nat → Int32) (fm : Value) (B : Nat → Prop) (T_ : Nat → Int) (h0 : Heap) (n0 : Nat) (sf0 : List Addr) (TT : Txt Z h0 s n c) (hz : z.toInt = n) (hz2 : z2.toInt = (2 * n : Nat)) (S_CS : Sta Z h0 "java/lang/String" "COMPACT_STRINGS" "Z" (.int cs)) (hcs : cs ≠ 0) (hn9 : n < 1000000) (hc : ∀ i, i < n → 0 ≤ (c i).toInt ∧ (c i).toInt < 65536) (S_FM : Sta Z h0 "jdk/internal/util/Preconditions" "SIOOBE_FORMATTER" "Ljava/util/function/BiFunction;" fm) (hfm : fm.isRef = true) (S_AD : Sta Z h0 "java/lang/StringUTF16" "$assertionsDisabled" "Z" (.int 1)) (S_HI : Sta Z h0 "java/lang/StringUTF16" "HI_BYTE_SHIFT" "I" (.int 0)) (S_LO : Sta Z h0 "java/lang/StringUTF16" "LO_BYTE_SHIFT" "I" (.int 8)) (hB0 : B 0) (hT0 : T_ 0 = 0) (hTb : ∀ i, 0 ≤ T_ i ∧ T_ i ≤ 1000) (hst : ∀ i, i < n → B i → (55296 ≤ (c i).toInt ∧ (c i).toInt < 57344 → 65536 ≤ (cpA c n i).toInt) ∧ B (i + cnt (cpA c n i)) ∧ i + cnt (cpA c n i) ≤ n ∧ T_ (i + cnt (cpA c n i)) = T_ i + wid (cpA c n i)) :
    MetW Z consts_1 sf0 (⟨"com/example/half_message_commit/halfmessagecommit/protocol/Text", "utf8Length", "(Ljava/lang/String;Ljava/lang/String;)J"⟩ : MethodName) prog_26_method_5_code 6 (some .long) [] ({ frames := 6, cells := 0, slots := 0, locals := 80 } : Room) #[(.ref lb), (.ref s)] h0 n0 (fun v h sf => ∃ r : Int64, v = some (.long r) ∧ r.toInt = T_ n ∧ h = h0) := by
  refine k_body (hEW hw) (f := (fun m => mkF m 0 #[.val (.ref lb), .val (.ref s), .unset, .unset, .unset, .unset] [])) pn_14 (fun m => by first | (simp [entryFrame, mkF, argsToLocals, Value.category, maxLocals]; done) | rfl) ?_
  intro Γ T G X
  have SE := TT.exa
  have e1 : (128 : Int32).toInt = 128 := rfl
  have e2 : (2048 : Int32).toInt = 2048 := rfl
  have e3 : (65536 : Int32).toInt = 65536 := rfl
  show Go Γ n0 _ T (mkF Γ.m 0 #[.val (.ref lb), .val (.ref s), .unset, .unset, .unset, .unset] [])
  refine k_lconst G X d14_0 (pc' := 1) rfl (z := (0 : Int64)) (by decide) ?_
  refine k_lstoreN G X d14_1 (pc' := 2) rfl (l' := #[.val (.ref lb), .val (.ref s), .val (.long (0 : Int64)), .second, .unset, .unset]) rfl ?_
  refine k_iconst G X d14_2 (pc' := 3) rfl (z := (0 : Int32)) (by decide) ?_
  refine k_istore G X d14_3 (pc' := 5) rfl (l' := #[.val (.ref lb), .val (.ref s), .val (.long (0 : Int64)), .second, .val (.int (0 : Int32)), .unset]) rfl ?_
  have LOOP : ∀ (k : Nat) (T : State) (va : Int64) (i : Int32) (s5 : Slot), ((s5 = .unset ∨ ∃ w, s5 = .val w ∧ w.category = 1)) → (B i.toInt.toNat) → (va.toInt = T_ i.toInt.toNat) → (0 ≤ i.toInt) → (i.toInt ≤ n) → n - i.toInt.toNat = k → W Γ n0 T h0 0 0 (sf0) → Go Γ n0 (fun v h sf => ∃ r : Int64, v = some (.long r) ∧ r.toInt = T_ n ∧ h = h0) T (mkF Γ.m 5 #[.val (.ref lb), .val (.ref s), .val (.long va), .second, .val (.int i), s5] []) := by
    intro k
    induction k using Nat.strongRecOn with
    | _ k ih =>
      intro T va i s5 h_s5 hB hT hi0 hin hk X
      refine k_iload G X d14_5 (pc' := 7) rfl rfl ?_
      refine k_aloadN G X d14_7 (pc' := 8) rfl rfl rfl ?_
      refine k_callV G X (argsL := []) (rest := [(.int i)]) rfl SE (w65 hw) (w66 hw) (nf_sel (w68 hw)) (w68 hw) (w67 hw) (w12 hw) (w69 hw) (by decide) (t_len hw s n z z2 cs c h0 n0 _ TT hz hz2 S_CS hcs) d14_8 pd19 rfl (pc' := 11) rfl rfl (wd := 1) rfl (by decide) (by decide) (by decide) (by decide) (fun T h8 v sf8 X q => ?_)
      replace X := W.drop X
      obtain ⟨rfl, e8⟩ := q
      replace X := X.eq e8
      show Go Γ n0 _ T (mkF Γ.m 11 #[.val (.ref lb), .val (.ref s), .val (.long va), .second, .val (.int i), s5] [(.int z), (.int i)])
      refine k_icmp_ge G X d14_11 (pc' := 100) rfl (by decide) (pc'' := 14) rfl (fun c11 => ?_) (fun c11 => ?_)
      · refine k_lloadN G X d14_100 (pc' := 101) rfl rfl ?_
        refine k_retl G X d14_101 rfl ?_ (by decide) (by decide)
        exact ⟨_, rfl, by rw [hT, show i.toInt.toNat = n by omega], rfl⟩
      · have hlt : i.toInt < n := by omega
        have hs := hst i.toInt.toNat (by omega) hB
        have hTi := hTb i.toInt.toNat
        refine k_aloadN G X d14_14 (pc' := 15) rfl rfl rfl ?_
        refine k_aloadN G X d14_15 (pc' := 16) rfl rfl rfl ?_
        refine k_iload G X d14_16 (pc' := 18) rfl rfl ?_
        refine k_callS G X (argsL := [(.ref lb), (.ref s), (.int i)]) (rest := []) rfl (w75 hw) (w76 hw) (w63 hw) (w77 hw) (by decide) (rqw hw lb s n i.toInt.toNat z z2 cs i c fm h0 n0 _ TT hz hz2 S_CS hcs hn9 hc S_FM hfm S_AD S_HI S_LO (by omega) (by omega) hs.1) d14_18 pd20 rfl (pc' := 21) rfl rfl (wd := 0) rfl (by decide) (by decide) (by decide) (by decide) (fun T h18 v sf18 X q => ?_)
        replace X := W.drop X
        obtain ⟨rfl, e18⟩ := q
        replace X := X.eq e18
        show Go Γ n0 _ T (mkF Γ.m 21 #[.val (.ref lb), .val (.ref s), .val (.long va), .second, .val (.int i), s5] [])
        refine k_aloadN G X d14_21 (pc' := 22) rfl rfl rfl ?_
        refine k_iload G X d14_22 (pc' := 24) rfl rfl ?_
        refine k_callV G X (argsL := [(.int i)]) (rest := []) rfl SE (w110 hw) (w111 hw) (nf_sel (w113 hw)) (w113 hw) (w112 hw) (w12 hw) (w114 hw) (by decide) (t_cp hw s n i.toInt.toNat z z2 cs i c fm h0 n0 _ TT hz hz2 S_CS hcs (by omega) (by omega) hn9 hc S_FM hfm S_AD S_HI S_LO) d14_24 pd4 rfl (pc' := 27) rfl rfl (wd := 0) rfl (by decide) (by decide) (by decide) (by decide) (fun T h24 v sf24 X q => ?_)
        replace X := W.drop X
        obtain ⟨rfl, e24⟩ := q
        replace X := X.eq e24
        show Go Γ n0 _ T (mkF Γ.m 27 #[.val (.ref lb), .val (.ref s), .val (.long va), .second, .val (.int i), s5] [(.int (cpA c n i.toInt.toNat))])
        refine k_istoreS G X d14_27 (pc' := 29) rfl rfl h_s5 (l' := #[.val (.ref lb), .val (.ref s), .val (.long va), .second, .val (.int i), .val (.int (cpA c n i.toInt.toNat))]) rfl ?_
        refine k_iload G X d14_29 (pc' := 31) rfl rfl ?_
        refine k_sipush G X d14_31 (pc' := 34) rfl (z := (128 : Int32)) (by decide) ?_
        refine k_icmp_ge G X d14_34 (pc' := 44) rfl (by decide) (pc'' := 37) rfl (fun c34 => ?_) (fun c34 => ?_)
        · refine k_iload G X d14_44 (pc' := 46) rfl rfl ?_
          refine k_sipush G X d14_46 (pc' := 49) rfl (z := (2048 : Int32)) (by decide) ?_
          refine k_icmp_ge G X d14_49 (pc' := 61) rfl (by decide) (pc'' := 52) rfl (fun c49 => ?_) (fun c49 => ?_)
          · refine k_iload G X d14_61 (pc' := 63) rfl rfl ?_
            refine k_ldcI G X (w129 hw) d14_63 (pc' := 65) rfl ?_
            refine k_icmp_ge G X d14_65 (pc' := 77) rfl (by decide) (pc'' := 68) rfl (fun c65 => ?_) (fun c65 => ?_)
            · refine k_lloadN G X d14_77 (pc' := 78) rfl rfl ?_
              refine k_ldcL G X (w145 hw) d14_78 (pc' := 81) rfl ?_
              refine k_ladd G X d14_81 (pc' := 82) rfl rfl ?_
              refine k_lstoreN G X d14_82 (pc' := 83) rfl (l' := #[.val (.ref lb), .val (.ref s), .val (.long (va + (4 : Int64))), .second, .val (.int i), .val (.int (cpA c n i.toInt.toNat))]) rfl ?_
              have hwd : wid (cpA c n i.toInt.toNat) = 4 := by unfold wid; (repeat' split) <;> omega
              have hva : (va + (4 : Int64)).toInt = va.toInt + 4 := ladd_toInt (by rw [show (4 : Int64).toInt = 4 from rfl]; omega) (by rw [show (4 : Int64).toInt = 4 from rfl]; omega)
              refine k_iload G X d14_83 (pc' := 85) rfl rfl ?_
              refine k_aloadN G X d14_85 (pc' := 86) rfl rfl rfl ?_
              refine k_iload G X d14_86 (pc' := 88) rfl rfl ?_
              refine k_callV G X (argsL := [(.int i)]) (rest := [(.int i)]) rfl SE (w110 hw) (w111 hw) (nf_sel (w113 hw)) (w113 hw) (w112 hw) (w12 hw) (w114 hw) (by decide) (t_cp hw s n i.toInt.toNat z z2 cs i c fm h0 n0 _ TT hz hz2 S_CS hcs (by omega) (by omega) hn9 hc S_FM hfm S_AD S_HI S_LO) d14_88 pd4 rfl (pc' := 91) rfl rfl (wd := 1) rfl (by decide) (by decide) (by decide) (by decide) (fun T h88 v sf88 X q => ?_)
              replace X := W.drop X
              obtain ⟨rfl, e88⟩ := q
              replace X := X.eq e88
              show Go Γ n0 _ T (mkF Γ.m 91 #[.val (.ref lb), .val (.ref s), .val (.long (va + (4 : Int64))), .second, .val (.int i), .val (.int (cpA c n i.toInt.toNat))] [(.int (cpA c n i.toInt.toNat)), (.int i)])
              refine k_callS G X (argsL := [(.int (cpA c n i.toInt.toNat))]) (rest := [(.int i)]) rfl (w125 hw) (w126 hw) (w107 hw) (w127 hw) (by decide) (ch_ct hw (cpA c n i.toInt.toNat) h0 n0 _) d14_91 pd4 rfl (pc' := 94) rfl rfl (wd := 1) rfl (by decide) (by decide) (by decide) (by decide) (fun T h91 v sf91 X q => ?_)
              replace X := W.drop X
              obtain ⟨r91, rfl, p91, m91, e91⟩ := q
              replace X := X.eq e91
              show Go Γ n0 _ T (mkF Γ.m 94 #[.val (.ref lb), .val (.ref s), .val (.long (va + (4 : Int64))), .second, .val (.int i), .val (.int (cpA c n i.toInt.toNat))] [(.int r91), (.int i)])
              refine k_iadd G X d14_94 (pc' := 95) rfl rfl ?_
              have hr : r91.toInt = (cnt (cpA c n i.toInt.toNat) : Nat) := by unfold cnt; split; rw [p91 (by assumption)]; rfl; rw [m91 (by omega)]; rfl
              have hi1 : (i + r91).toInt = i.toInt + (cnt (cpA c n i.toInt.toNat) : Nat) := by rw [iadd_toInt (by omega) (by have := hs.2.2.1; omega), hr]
              have hi2 : (i + r91).toInt.toNat = i.toInt.toNat + cnt (cpA c n i.toInt.toNat) := by rw [hi1]; omega
              have hcp : 1 ≤ cnt (cpA c n i.toInt.toNat) := by unfold cnt; split <;> decide
              refine k_istore G X d14_95 (pc' := 97) rfl (l' := #[.val (.ref lb), .val (.ref s), .val (.long (va + (4 : Int64))), .second, .val (.int (i + r91)), .val (.int (cpA c n i.toInt.toNat))]) rfl ?_
              refine k_goto G X d14_97 (by decide) (pc' := 5) rfl ?_
              exact ih _ (by rw [hi2]; have := hs.2.2.1; omega) T (va + (4 : Int64)) (i + r91) (.val (.int (cpA c n i.toInt.toNat))) (Or.inr ⟨_, rfl, rfl⟩) (by rw [hi2]; exact hs.2.1) (by rw [hi2, hs.2.2.2, hva, hT, hwd]) (by omega) (by have := hs.2.2.1; omega) rfl X
            · refine k_lloadN G X d14_68 (pc' := 69) rfl rfl ?_
              refine k_ldcL G X (w130 hw) d14_69 (pc' := 72) rfl ?_
              refine k_ladd G X d14_72 (pc' := 73) rfl rfl ?_
              refine k_lstoreN G X d14_73 (pc' := 74) rfl (l' := #[.val (.ref lb), .val (.ref s), .val (.long (va + (3 : Int64))), .second, .val (.int i), .val (.int (cpA c n i.toInt.toNat))]) rfl ?_
              refine k_goto G X d14_74 (by decide) (pc' := 83) rfl ?_
              have hwd : wid (cpA c n i.toInt.toNat) = 3 := by unfold wid; (repeat' split) <;> omega
              have hva : (va + (3 : Int64)).toInt = va.toInt + 3 := ladd_toInt (by rw [show (3 : Int64).toInt = 3 from rfl]; omega) (by rw [show (3 : Int64).toInt = 3 from rfl]; omega)
              refine k_iload G X d14_83 (pc' := 85) rfl rfl ?_
              refine k_aloadN G X d14_85 (pc' := 86) rfl rfl rfl ?_
              refine k_iload G X d14_86 (pc' := 88) rfl rfl ?_
              refine k_callV G X (argsL := [(.int i)]) (rest := [(.int i)]) rfl SE (w110 hw) (w111 hw) (nf_sel (w113 hw)) (w113 hw) (w112 hw) (w12 hw) (w114 hw) (by decide) (t_cp hw s n i.toInt.toNat z z2 cs i c fm h0 n0 _ TT hz hz2 S_CS hcs (by omega) (by omega) hn9 hc S_FM hfm S_AD S_HI S_LO) d14_88 pd4 rfl (pc' := 91) rfl rfl (wd := 1) rfl (by decide) (by decide) (by decide) (by decide) (fun T h88 v sf88 X q => ?_)
              replace X := W.drop X
              obtain ⟨rfl, e88⟩ := q
              replace X := X.eq e88
              show Go Γ n0 _ T (mkF Γ.m 91 #[.val (.ref lb), .val (.ref s), .val (.long (va + (3 : Int64))), .second, .val (.int i), .val (.int (cpA c n i.toInt.toNat))] [(.int (cpA c n i.toInt.toNat)), (.int i)])
              refine k_callS G X (argsL := [(.int (cpA c n i.toInt.toNat))]) (rest := [(.int i)]) rfl (w125 hw) (w126 hw) (w107 hw) (w127 hw) (by decide) (ch_ct hw (cpA c n i.toInt.toNat) h0 n0 _) d14_91 pd4 rfl (pc' := 94) rfl rfl (wd := 1) rfl (by decide) (by decide) (by decide) (by decide) (fun T h91 v sf91 X q => ?_)
              replace X := W.drop X
              obtain ⟨r91, rfl, p91, m91, e91⟩ := q
              replace X := X.eq e91
              show Go Γ n0 _ T (mkF Γ.m 94 #[.val (.ref lb), .val (.ref s), .val (.long (va + (3 : Int64))), .second, .val (.int i), .val (.int (cpA c n i.toInt.toNat))] [(.int r91), (.int i)])
              refine k_iadd G X d14_94 (pc' := 95) rfl rfl ?_
              have hr : r91.toInt = (cnt (cpA c n i.toInt.toNat) : Nat) := by unfold cnt; split; rw [p91 (by assumption)]; rfl; rw [m91 (by omega)]; rfl
              have hi1 : (i + r91).toInt = i.toInt + (cnt (cpA c n i.toInt.toNat) : Nat) := by rw [iadd_toInt (by omega) (by have := hs.2.2.1; omega), hr]
              have hi2 : (i + r91).toInt.toNat = i.toInt.toNat + cnt (cpA c n i.toInt.toNat) := by rw [hi1]; omega
              have hcp : 1 ≤ cnt (cpA c n i.toInt.toNat) := by unfold cnt; split <;> decide
              refine k_istore G X d14_95 (pc' := 97) rfl (l' := #[.val (.ref lb), .val (.ref s), .val (.long (va + (3 : Int64))), .second, .val (.int (i + r91)), .val (.int (cpA c n i.toInt.toNat))]) rfl ?_
              refine k_goto G X d14_97 (by decide) (pc' := 5) rfl ?_
              exact ih _ (by rw [hi2]; have := hs.2.2.1; omega) T (va + (3 : Int64)) (i + r91) (.val (.int (cpA c n i.toInt.toNat))) (Or.inr ⟨_, rfl, rfl⟩) (by rw [hi2]; exact hs.2.1) (by rw [hi2, hs.2.2.2, hva, hT, hwd]) (by omega) (by have := hs.2.2.1; omega) rfl X
          · refine k_lloadN G X d14_52 (pc' := 53) rfl rfl ?_
            refine k_ldcL G X (w131 hw) d14_53 (pc' := 56) rfl ?_
            refine k_ladd G X d14_56 (pc' := 57) rfl rfl ?_
            refine k_lstoreN G X d14_57 (pc' := 58) rfl (l' := #[.val (.ref lb), .val (.ref s), .val (.long (va + (2 : Int64))), .second, .val (.int i), .val (.int (cpA c n i.toInt.toNat))]) rfl ?_
            refine k_goto G X d14_58 (by decide) (pc' := 83) rfl ?_
            have hwd : wid (cpA c n i.toInt.toNat) = 2 := by unfold wid; (repeat' split) <;> omega
            have hva : (va + (2 : Int64)).toInt = va.toInt + 2 := ladd_toInt (by rw [show (2 : Int64).toInt = 2 from rfl]; omega) (by rw [show (2 : Int64).toInt = 2 from rfl]; omega)
            refine k_iload G X d14_83 (pc' := 85) rfl rfl ?_
            refine k_aloadN G X d14_85 (pc' := 86) rfl rfl rfl ?_
            refine k_iload G X d14_86 (pc' := 88) rfl rfl ?_
            refine k_callV G X (argsL := [(.int i)]) (rest := [(.int i)]) rfl SE (w110 hw) (w111 hw) (nf_sel (w113 hw)) (w113 hw) (w112 hw) (w12 hw) (w114 hw) (by decide) (t_cp hw s n i.toInt.toNat z z2 cs i c fm h0 n0 _ TT hz hz2 S_CS hcs (by omega) (by omega) hn9 hc S_FM hfm S_AD S_HI S_LO) d14_88 pd4 rfl (pc' := 91) rfl rfl (wd := 1) rfl (by decide) (by decide) (by decide) (by decide) (fun T h88 v sf88 X q => ?_)
            replace X := W.drop X
            obtain ⟨rfl, e88⟩ := q
            replace X := X.eq e88
            show Go Γ n0 _ T (mkF Γ.m 91 #[.val (.ref lb), .val (.ref s), .val (.long (va + (2 : Int64))), .second, .val (.int i), .val (.int (cpA c n i.toInt.toNat))] [(.int (cpA c n i.toInt.toNat)), (.int i)])
            refine k_callS G X (argsL := [(.int (cpA c n i.toInt.toNat))]) (rest := [(.int i)]) rfl (w125 hw) (w126 hw) (w107 hw) (w127 hw) (by decide) (ch_ct hw (cpA c n i.toInt.toNat) h0 n0 _) d14_91 pd4 rfl (pc' := 94) rfl rfl (wd := 1) rfl (by decide) (by decide) (by decide) (by decide) (fun T h91 v sf91 X q => ?_)
            replace X := W.drop X
            obtain ⟨r91, rfl, p91, m91, e91⟩ := q
            replace X := X.eq e91
            show Go Γ n0 _ T (mkF Γ.m 94 #[.val (.ref lb), .val (.ref s), .val (.long (va + (2 : Int64))), .second, .val (.int i), .val (.int (cpA c n i.toInt.toNat))] [(.int r91), (.int i)])
            refine k_iadd G X d14_94 (pc' := 95) rfl rfl ?_
            have hr : r91.toInt = (cnt (cpA c n i.toInt.toNat) : Nat) := by unfold cnt; split; rw [p91 (by assumption)]; rfl; rw [m91 (by omega)]; rfl
            have hi1 : (i + r91).toInt = i.toInt + (cnt (cpA c n i.toInt.toNat) : Nat) := by rw [iadd_toInt (by omega) (by have := hs.2.2.1; omega), hr]
            have hi2 : (i + r91).toInt.toNat = i.toInt.toNat + cnt (cpA c n i.toInt.toNat) := by rw [hi1]; omega
            have hcp : 1 ≤ cnt (cpA c n i.toInt.toNat) := by unfold cnt; split <;> decide
            refine k_istore G X d14_95 (pc' := 97) rfl (l' := #[.val (.ref lb), .val (.ref s), .val (.long (va + (2 : Int64))), .second, .val (.int (i + r91)), .val (.int (cpA c n i.toInt.toNat))]) rfl ?_
            refine k_goto G X d14_97 (by decide) (pc' := 5) rfl ?_
            exact ih _ (by rw [hi2]; have := hs.2.2.1; omega) T (va + (2 : Int64)) (i + r91) (.val (.int (cpA c n i.toInt.toNat))) (Or.inr ⟨_, rfl, rfl⟩) (by rw [hi2]; exact hs.2.1) (by rw [hi2, hs.2.2.2, hva, hT, hwd]) (by omega) (by have := hs.2.2.1; omega) rfl X
        · refine k_lloadN G X d14_37 (pc' := 38) rfl rfl ?_
          refine k_lconst G X d14_38 (pc' := 39) rfl (z := (1 : Int64)) (by decide) ?_
          refine k_ladd G X d14_39 (pc' := 40) rfl rfl ?_
          refine k_lstoreN G X d14_40 (pc' := 41) rfl (l' := #[.val (.ref lb), .val (.ref s), .val (.long (va + (1 : Int64))), .second, .val (.int i), .val (.int (cpA c n i.toInt.toNat))]) rfl ?_
          refine k_goto G X d14_41 (by decide) (pc' := 83) rfl ?_
          have hwd : wid (cpA c n i.toInt.toNat) = 1 := by unfold wid; (repeat' split) <;> omega
          have hva : (va + (1 : Int64)).toInt = va.toInt + 1 := ladd_toInt (by rw [show (1 : Int64).toInt = 1 from rfl]; omega) (by rw [show (1 : Int64).toInt = 1 from rfl]; omega)
          refine k_iload G X d14_83 (pc' := 85) rfl rfl ?_
          refine k_aloadN G X d14_85 (pc' := 86) rfl rfl rfl ?_
          refine k_iload G X d14_86 (pc' := 88) rfl rfl ?_
          refine k_callV G X (argsL := [(.int i)]) (rest := [(.int i)]) rfl SE (w110 hw) (w111 hw) (nf_sel (w113 hw)) (w113 hw) (w112 hw) (w12 hw) (w114 hw) (by decide) (t_cp hw s n i.toInt.toNat z z2 cs i c fm h0 n0 _ TT hz hz2 S_CS hcs (by omega) (by omega) hn9 hc S_FM hfm S_AD S_HI S_LO) d14_88 pd4 rfl (pc' := 91) rfl rfl (wd := 1) rfl (by decide) (by decide) (by decide) (by decide) (fun T h88 v sf88 X q => ?_)
          replace X := W.drop X
          obtain ⟨rfl, e88⟩ := q
          replace X := X.eq e88
          show Go Γ n0 _ T (mkF Γ.m 91 #[.val (.ref lb), .val (.ref s), .val (.long (va + (1 : Int64))), .second, .val (.int i), .val (.int (cpA c n i.toInt.toNat))] [(.int (cpA c n i.toInt.toNat)), (.int i)])
          refine k_callS G X (argsL := [(.int (cpA c n i.toInt.toNat))]) (rest := [(.int i)]) rfl (w125 hw) (w126 hw) (w107 hw) (w127 hw) (by decide) (ch_ct hw (cpA c n i.toInt.toNat) h0 n0 _) d14_91 pd4 rfl (pc' := 94) rfl rfl (wd := 1) rfl (by decide) (by decide) (by decide) (by decide) (fun T h91 v sf91 X q => ?_)
          replace X := W.drop X
          obtain ⟨r91, rfl, p91, m91, e91⟩ := q
          replace X := X.eq e91
          show Go Γ n0 _ T (mkF Γ.m 94 #[.val (.ref lb), .val (.ref s), .val (.long (va + (1 : Int64))), .second, .val (.int i), .val (.int (cpA c n i.toInt.toNat))] [(.int r91), (.int i)])
          refine k_iadd G X d14_94 (pc' := 95) rfl rfl ?_
          have hr : r91.toInt = (cnt (cpA c n i.toInt.toNat) : Nat) := by unfold cnt; split; rw [p91 (by assumption)]; rfl; rw [m91 (by omega)]; rfl
          have hi1 : (i + r91).toInt = i.toInt + (cnt (cpA c n i.toInt.toNat) : Nat) := by rw [iadd_toInt (by omega) (by have := hs.2.2.1; omega), hr]
          have hi2 : (i + r91).toInt.toNat = i.toInt.toNat + cnt (cpA c n i.toInt.toNat) := by rw [hi1]; omega
          have hcp : 1 ≤ cnt (cpA c n i.toInt.toNat) := by unfold cnt; split <;> decide
          refine k_istore G X d14_95 (pc' := 97) rfl (l' := #[.val (.ref lb), .val (.ref s), .val (.long (va + (1 : Int64))), .second, .val (.int (i + r91)), .val (.int (cpA c n i.toInt.toNat))]) rfl ?_
          refine k_goto G X d14_97 (by decide) (pc' := 5) rfl ?_
          exact ih _ (by rw [hi2]; have := hs.2.2.1; omega) T (va + (1 : Int64)) (i + r91) (.val (.int (cpA c n i.toInt.toNat))) (Or.inr ⟨_, rfl, rfl⟩) (by rw [hi2]; exact hs.2.1) (by rw [hi2, hs.2.2.2, hva, hT, hwd]) (by omega) (by have := hs.2.2.1; omega) rfl X
  exact LOOP _ T (0 : Int64) (0 : Int32) (.unset) (Or.inl rfl) hB0 (by rw [show (0 : Int32).toInt.toNat = 0 from rfl, hT0]; rfl) (by decide) (by rw [z32]; omega) rfl X
theorem pn_2 : plainFor (⟨"com/example/half_message_commit/halfmessagecommit/protocol/TextUtf8LengthPinLaw", "cp", "(II)I"⟩ : MethodName) = true := plainFor_of_name (by first | (simp [plainName, overriddenIn]; done) | decide +kernel)
set_option maxRecDepth 65536 in
set_option maxHeartbeats 40000000 in
theorem cpx {Z : State} {a0 : Array Value} (hw : HW a0 Z) (x kd : Int32) (k : Nat) (h0 : Heap) (n0 : Nat) (sf0 : List Addr) (hk : kd.toInt = k) (hk3 : k ≤ 3) :
    MetW Z consts_1 sf0 (⟨"com/example/half_message_commit/halfmessagecommit/protocol/TextUtf8LengthPinLaw", "cp", "(II)I"⟩ : MethodName) method_2_code 4 (some .int) [] ({ frames := 0, cells := 0, slots := 0, locals := 0 } : Room) #[(.int x), (.int kd)] h0 n0 (fun v h sf => ∃ r : Int32, v = some (.int r) ∧ Kd k r ∧ h = h0) := by
  refine k_body (hEW hw) (f := (fun m => mkF m 0 #[.val (.int x), .val (.int kd), .unset, .unset] [])) pn_2 (fun m => by first | (simp [entryFrame, mkF, argsToLocals, Value.category, maxLocals]; done) | rfl) ?_
  intro Γ T G X
  have e1 : (128 : Int32).toInt = 128 := rfl
  have e2 : (2048 : Int32).toInt = 2048 := rfl
  have e3 : (65536 : Int32).toInt = 65536 := rfl
  have e4 : (55296 : Int32).toInt = 55296 := rfl
  have e5 : (57343 : Int32).toInt = 57343 := rfl
  show Go Γ n0 _ T (mkF Γ.m 0 #[.val (.int x), .val (.int kd), .unset, .unset] [])
  refine k_iloadN G X d2_0 (pc' := 1) rfl rfl ?_
  refine k_iconst G X d2_1 (pc' := 2) rfl (z := (2 : Int32)) (by decide) ?_
  obtain ⟨v1, q_v1⟩ : ∃ z, ((x.toUInt32 >>> ((2 : Int32) &&& 31).toUInt32).toInt32) = z := ⟨_, rfl⟩
  refine k_iushr G X d2_2 (pc' := 3) rfl q_v1 ?_
  have n_v1 := c_iushr x (2 : Int32) 2 rfl (by decide)
  rw [q_v1] at n_v1
  refine k_istoreN G X d2_3 (pc' := 4) rfl (l' := #[.val (.int x), .val (.int kd), .val (.int v1), .unset]) rfl ?_
  refine k_iloadN G X d2_4 (pc' := 5) rfl rfl ?_
  refine k_if_ne G X d2_5 (pc' := 13) rfl (by decide) (pc'' := 8) rfl (fun c5 => ?_) (fun c5 => ?_)
  · refine k_iloadN G X d2_13 (pc' := 14) rfl rfl ?_
    refine k_iconst G X d2_14 (pc' := 15) rfl (z := (1 : Int32)) (by decide) ?_
    refine k_icmp_ne G X d2_15 (pc' := 28) rfl (by decide) (pc'' := 18) rfl (fun c15 => ?_) (fun c15 => ?_)
    · refine k_iloadN G X d2_28 (pc' := 29) rfl rfl ?_
      refine k_iconst G X d2_29 (pc' := 30) rfl (z := (2 : Int32)) (by decide) ?_
      refine k_icmp_ne G X d2_30 (pc' := 62) rfl (by decide) (pc'' := 33) rfl (fun c30 => ?_) (fun c30 => ?_)
      · refine k_ldcI G X (w133 hw) d2_62 (pc' := 64) rfl ?_
        refine k_iloadN G X d2_64 (pc' := 65) rfl rfl ?_
        refine k_ldcI G X (w134 hw) d2_65 (pc' := 67) rfl ?_
        obtain ⟨v2, q_v2⟩ : ∃ z, (v1 % (1048576 : Int32)) = z := ⟨_, rfl⟩
        refine k_irem G X d2_67 (pc' := 68) rfl (by decide) q_v2 ?_
        have n_v2 := c_irem v1 (1048576 : Int32) 1048576 rfl
        rw [q_v2] at n_v2
        obtain ⟨v3, q_v3⟩ : ∃ z, ((65536 : Int32) + v2) = z := ⟨_, rfl⟩
        refine k_iadd G X d2_68 (pc' := 69) rfl q_v3 ?_
        have n_v3 := c_iadd (65536 : Int32) v2
        rw [q_v3] at n_v3
        have r_v3 := rgI v3
        refine k_reti G X d2_69 rfl ?_ (by decide) (by decide)
        obtain rfl : k = 3 := by have h1 : kd.toInt ≠ 0 := fun q => c5 (of_toInt q); have h2 : kd.toInt ≠ 1 := fun q => c15 (of_toInt q); have h3 : kd.toInt ≠ 2 := fun q => c30 (of_toInt q); omega
        exact ⟨_, rfl, ⟨fun h => by omega, fun h => by omega, fun h => by omega, fun h => by omega⟩, rfl⟩
      · refine k_sipush G X d2_33 (pc' := 36) rfl (z := (2048 : Int32)) (by decide) ?_
        refine k_iloadN G X d2_36 (pc' := 37) rfl rfl ?_
        refine k_ldcI G X (w8 hw) d2_37 (pc' := 39) rfl ?_
        obtain ⟨v4, q_v4⟩ : ∃ z, (v1 % (63488 : Int32)) = z := ⟨_, rfl⟩
        refine k_irem G X d2_39 (pc' := 40) rfl (by decide) q_v4 ?_
        have n_v4 := c_irem v1 (63488 : Int32) 63488 rfl
        rw [q_v4] at n_v4
        obtain ⟨v5, q_v5⟩ : ∃ z, ((2048 : Int32) + v4) = z := ⟨_, rfl⟩
        refine k_iadd G X d2_40 (pc' := 41) rfl q_v5 ?_
        have n_v5 := c_iadd (2048 : Int32) v4
        rw [q_v5] at n_v5
        have r_v5 := rgI v5
        refine k_istoreN G X d2_41 (pc' := 42) rfl (l' := #[.val (.int x), .val (.int kd), .val (.int v1), .val (.int v5)]) rfl ?_
        refine k_iloadN G X d2_42 (pc' := 43) rfl rfl ?_
        refine k_ldcI G X (w9 hw) d2_43 (pc' := 45) rfl ?_
        refine k_icmp_lt G X d2_45 (pc' := 60) rfl (by decide) (pc'' := 48) rfl (fun c45 => ?_) (fun c45 => ?_)
        · refine k_iloadN G X d2_60 (pc' := 61) rfl rfl ?_
          refine k_reti G X d2_61 rfl ?_ (by decide) (by decide)
          obtain rfl : k = 2 := by have := congrArg Int32.toInt c30; rw [show (2 : Int32).toInt = 2 from rfl] at this; omega
          exact ⟨_, rfl, ⟨fun h => by omega, fun h => by omega, fun h => by omega, fun h => by omega⟩, rfl⟩
        · refine k_iloadN G X d2_48 (pc' := 49) rfl rfl ?_
          refine k_ldcI G X (w151 hw) d2_49 (pc' := 51) rfl ?_
          refine k_icmp_gt G X d2_51 (pc' := 60) rfl (by decide) (pc'' := 54) rfl (fun c51 => ?_) (fun c51 => ?_)
          · refine k_iloadN G X d2_60 (pc' := 61) rfl rfl ?_
            refine k_reti G X d2_61 rfl ?_ (by decide) (by decide)
            obtain rfl : k = 2 := by have := congrArg Int32.toInt c30; rw [show (2 : Int32).toInt = 2 from rfl] at this; omega
            exact ⟨_, rfl, ⟨fun h => by omega, fun h => by omega, fun h => by omega, fun h => by omega⟩, rfl⟩
          · refine k_iloadN G X d2_54 (pc' := 55) rfl rfl ?_
            refine k_sipush G X d2_55 (pc' := 58) rfl (z := (2048 : Int32)) (by decide) ?_
            obtain ⟨v6, q_v6⟩ : ∃ z, (v5 + (2048 : Int32)) = z := ⟨_, rfl⟩
            refine k_iadd G X d2_58 (pc' := 59) rfl q_v6 ?_
            have n_v6 := c_iadd v5 (2048 : Int32)
            rw [q_v6] at n_v6
            have r_v6 := rgI v6
            refine k_istoreN G X d2_59 (pc' := 60) rfl (l' := #[.val (.int x), .val (.int kd), .val (.int v1), .val (.int v6)]) rfl ?_
            refine k_iloadN G X d2_60 (pc' := 61) rfl rfl ?_
            refine k_reti G X d2_61 rfl ?_ (by decide) (by decide)
            obtain rfl : k = 2 := by have := congrArg Int32.toInt c30; rw [show (2 : Int32).toInt = 2 from rfl] at this; omega
            exact ⟨_, rfl, ⟨fun h => by omega, fun h => by omega, fun h => by omega, fun h => by omega⟩, rfl⟩
    · refine k_sipush G X d2_18 (pc' := 21) rfl (z := (128 : Int32)) (by decide) ?_
      refine k_iloadN G X d2_21 (pc' := 22) rfl rfl ?_
      refine k_sipush G X d2_22 (pc' := 25) rfl (z := (1920 : Int32)) (by decide) ?_
      obtain ⟨v7, q_v7⟩ : ∃ z, (v1 % (1920 : Int32)) = z := ⟨_, rfl⟩
      refine k_irem G X d2_25 (pc' := 26) rfl (by decide) q_v7 ?_
      have n_v7 := c_irem v1 (1920 : Int32) 1920 rfl
      rw [q_v7] at n_v7
      obtain ⟨v8, q_v8⟩ : ∃ z, ((128 : Int32) + v7) = z := ⟨_, rfl⟩
      refine k_iadd G X d2_26 (pc' := 27) rfl q_v8 ?_
      have n_v8 := c_iadd (128 : Int32) v7
      rw [q_v8] at n_v8
      have r_v8 := rgI v8
      refine k_reti G X d2_27 rfl ?_ (by decide) (by decide)
      obtain rfl : k = 1 := by have := congrArg Int32.toInt c15; rw [show (1 : Int32).toInt = 1 from rfl] at this; omega
      exact ⟨_, rfl, ⟨fun h => by omega, fun h => by omega, fun h => by omega, fun h => by omega⟩, rfl⟩
  · refine k_iloadN G X d2_8 (pc' := 9) rfl rfl ?_
    refine k_bipush G X d2_9 (pc' := 11) rfl (z := (127 : Int32)) (by decide) ?_
    obtain ⟨v9, q_v9⟩ : ∃ z, (v1 &&& (127 : Int32)) = z := ⟨_, rfl⟩
    refine k_iand G X d2_11 (pc' := 12) rfl q_v9 ?_
    have n_v9 := and_rng v1 (m := (127 : Int32)) 127 rfl (by decide)
    rw [q_v9] at n_v9
    refine k_reti G X d2_12 rfl ?_ (by decide) (by decide)
    obtain rfl : k = 0 := by have := congrArg Int32.toInt c5; rw [show (0 : Int32).toInt = 0 from rfl] at this; omega
    exact ⟨_, rfl, ⟨fun h => by omega, fun h => by omega, fun h => by omega, fun h => by omega⟩, rfl⟩
theorem pn_1 : plainFor (⟨"com/example/half_message_commit/halfmessagecommit/protocol/TextUtf8LengthPinLaw", "fill", "([CIII)I"⟩ : MethodName) = true := plainFor_of_name (by first | (simp [plainName, overriddenIn]; done) | decide +kernel)
set_option maxRecDepth 65536 in
set_option maxHeartbeats 40000000 in
theorem fil {Z : State} {a0 : Array Value} (hw : HW a0 Z) (a : Addr) (ka : ClassId) (zt p q : Int32) (t : Nat) (f : Nat → Value) (h0 : Heap) (n0 : Nat) (sf0 : List Addr) (A : Arf Z h0 a ka .char 6 f) (gm_a : n0 ≤ a ∧ a ∈ sf0) (hzt : zt.toInt = t) (ht : t + 1 < 6) :
    MetW Z consts_1 sf0 (⟨"com/example/half_message_commit/halfmessagecommit/protocol/TextUtf8LengthPinLaw", "fill", "([CIII)I"⟩ : MethodName) method_3_code 6 (some .int) [] ({ frames := 1, cells := 0, slots := 0, locals := 17 } : Room) #[(.ref a), (.int zt), (.int p), (.int q)] h0 n0 (fun v h sf => ∃ r x y : Int32, v = some (.int r) ∧ Keep h0 h [a] ∧ Arf Z h a ka .char 6 (fun i => if i = t + 1 then .int y else if i = t then .int x else f i) ∧ PairOK x y r) := by
  refine k_body (hEW hw) (f := (fun m => mkF m 0 #[.val (.ref a), .val (.int zt), .val (.int p), .val (.int q), .unset, .unset] [])) pn_1 (fun m => by first | (simp [entryFrame, mkF, argsToLocals, Value.category, maxLocals]; done) | rfl) ?_
  intro Γ T G X
  have ge_a := gm_a.1
  have KP := Keep.refl h0 [a]
  have u1 : (1 : Int32).toInt = 1 := rfl
  have u2 : (2 : Int32).toInt = 2 := rfl
  have e3 : (65536 : Int32).toInt = 65536 := rfl
  have e4 : (55296 : Int32).toInt = 55296 := rfl
  have e5 : (56320 : Int32).toInt = 56320 := rfl
  show Go Γ n0 _ T (mkF Γ.m 0 #[.val (.ref a), .val (.int zt), .val (.int p), .val (.int q), .unset, .unset] [])
  refine k_iloadN G X d1_0 (pc' := 1) rfl rfl ?_
  refine k_iconst G X d1_1 (pc' := 2) rfl (z := (3 : Int32)) (by decide) ?_
  obtain ⟨v1, q_v1⟩ : ∃ z, (p &&& (3 : Int32)) = z := ⟨_, rfl⟩
  refine k_iand G X d1_2 (pc' := 3) rfl q_v1 ?_
  have n_v1 := and_rng p (m := (3 : Int32)) 3 rfl (by decide)
  rw [q_v1] at n_v1
  refine k_iconst G X d1_3 (pc' := 4) rfl (z := (3 : Int32)) (by decide) ?_
  refine k_icmp_ne G X d1_4 (pc' := 46) rfl (by decide) (pc'' := 7) rfl (fun c4 => ?_) (fun c4 => ?_)
  · refine k_iloadN G X d1_46 (pc' := 47) rfl rfl ?_
    refine k_iconst G X d1_47 (pc' := 48) rfl (z := (3 : Int32)) (by decide) ?_
    obtain ⟨v2, q_v2⟩ : ∃ z, (p &&& (3 : Int32)) = z := ⟨_, rfl⟩
    refine k_iand G X d1_48 (pc' := 49) rfl q_v2 ?_
    have n_v2 := and_rng p (m := (3 : Int32)) 3 rfl (by decide)
    rw [q_v2] at n_v2
    obtain rfl : v1 = v2 := q_v1.symm.trans q_v2
    have hv1 : v1.toInt ≠ 3 := fun q => c4 (of_toInt q)
    refine k_istore G X d1_49 (pc' := 51) rfl (l' := #[.val (.ref a), .val (.int zt), .val (.int p), .val (.int q), .val (.int v1), .unset]) rfl ?_
    refine k_iloadN G X d1_51 (pc' := 52) rfl rfl ?_
    refine k_iconst G X d1_52 (pc' := 53) rfl (z := (3 : Int32)) (by decide) ?_
    obtain ⟨v3, q_v3⟩ : ∃ z, (q &&& (3 : Int32)) = z := ⟨_, rfl⟩
    refine k_iand G X d1_53 (pc' := 54) rfl q_v3 ?_
    have n_v3 := and_rng q (m := (3 : Int32)) 3 rfl (by decide)
    rw [q_v3] at n_v3
    refine k_iconst G X d1_54 (pc' := 55) rfl (z := (3 : Int32)) (by decide) ?_
    obtain ⟨v4, q_v4⟩ : ∃ z, (v3 % (3 : Int32)) = z := ⟨_, rfl⟩
    refine k_irem G X d1_55 (pc' := 56) rfl (by decide) q_v4 ?_
    have n_v4 := c_irem v3 (3 : Int32) 3 rfl
    rw [q_v4] at n_v4
    refine k_istore G X d1_56 (pc' := 58) rfl (l' := #[.val (.ref a), .val (.int zt), .val (.int p), .val (.int q), .val (.int v1), .val (.int v4)]) rfl ?_
    refine k_aloadN G X d1_58 (pc' := 59) rfl rfl rfl ?_
    refine k_iloadN G X d1_59 (pc' := 60) rfl rfl ?_
    refine k_iloadN G X d1_60 (pc' := 61) rfl rfl ?_
    refine k_iload G X d1_61 (pc' := 63) rfl rfl ?_
    refine k_callS G X (argsL := [(.int p), (.int v1)]) (rest := [(.int zt), (.ref a)]) rfl (w5 hw) (w6 hw) (w3 hw) (w7 hw) (by decide) (cpx hw p v1 v1.toInt.toNat h0 n0 _ (by omega) (by omega)) d1_63 pd21 rfl (pc' := 66) rfl rfl (wd := 2) rfl (by decide) (by decide) (by decide) (by decide) (fun T h63 v sf63 X q => ?_)
    replace X := W.drop X
    obtain ⟨g63, rfl, hg63, e63⟩ := q
    replace X := X.eq e63
    obtain ⟨bm63, wd63⟩ := hg63.bmp (by omega)
    have bm63' := id bm63; unfold Bmp at bm63'
    show Go Γ n0 _ T (mkF Γ.m 66 #[.val (.ref a), .val (.int zt), .val (.int p), .val (.int q), .val (.int v1), .val (.int v4)] [(.int g63), (.int zt), (.ref a)])
    obtain ⟨v5, q_v5⟩ : ∃ z, (g63.toUInt32.toUInt16.toUInt32.toInt32) = z := ⟨_, rfl⟩
    refine k_i2c G X d1_66 (pc' := 67) rfl q_v5 ?_
    have n_v5 := c_i2c g63
    rw [q_v5] at n_v5
    obtain rfl : g63 = v5 := (i2c_c (by omega) (by omega)).symm.trans q_v5
    refine k_castore G X (i := t) (z := g63) A hzt (by omega) (nar_c (by omega) (by omega)) ge_a (List.mem_append_right [] gm_a.2) d1_67 (pc' := 68) rfl (fun T h67 W67 A X => ?_)
    replace KP := KP.wr W67 (Or.inl (List.mem_of_getElem? (i := 0) rfl))
    refine k_aloadN G X d1_68 (pc' := 69) rfl rfl rfl ?_
    refine k_iloadN G X d1_69 (pc' := 70) rfl rfl ?_
    refine k_iconst G X d1_70 (pc' := 71) rfl (z := (1 : Int32)) (by decide) ?_
    obtain ⟨v6, q_v6⟩ : ∃ z, (zt + (1 : Int32)) = z := ⟨_, rfl⟩
    refine k_iadd G X d1_71 (pc' := 72) rfl q_v6 ?_
    have n_v6 := c_iadd zt (1 : Int32)
    rw [q_v6] at n_v6
    have r_v6 := rgI v6
    refine k_iloadN G X d1_72 (pc' := 73) rfl rfl ?_
    refine k_iload G X d1_73 (pc' := 75) rfl rfl ?_
    refine k_callS G X (argsL := [(.int q), (.int v4)]) (rest := [(.int v6), (.ref a)]) rfl (w5 hw) (w6 hw) (w3 hw) (w7 hw) (by decide) (cpx hw q v4 v4.toInt.toNat h67 n0 _ (by omega) (by omega)) d1_75 pd21 rfl (pc' := 78) rfl rfl (wd := 2) rfl (by decide) (by decide) (by decide) (by decide) (fun T h75 v sf75 X q => ?_)
    replace X := W.drop X
    obtain ⟨g75, rfl, hg75, e75⟩ := q
    replace X := X.eq e75
    obtain ⟨bm75, wd75⟩ := hg75.bmp (by omega)
    have bm75' := id bm75; unfold Bmp at bm75'
    show Go Γ n0 _ T (mkF Γ.m 78 #[.val (.ref a), .val (.int zt), .val (.int p), .val (.int q), .val (.int v1), .val (.int v4)] [(.int g75), (.int v6), (.ref a)])
    obtain ⟨v7, q_v7⟩ : ∃ z, (g75.toUInt32.toUInt16.toUInt32.toInt32) = z := ⟨_, rfl⟩
    refine k_i2c G X d1_78 (pc' := 79) rfl q_v7 ?_
    have n_v7 := c_i2c g75
    rw [q_v7] at n_v7
    obtain rfl : g75 = v7 := (i2c_c (by omega) (by omega)).symm.trans q_v7
    refine k_castore G X (i := (t + 1)) (z := g75) A (by omega) (by omega) (nar_c (by omega) (by omega)) ge_a (List.mem_append_right [] gm_a.2) d1_79 (pc' := 80) rfl (fun T h79 W79 A X => ?_)
    replace KP := KP.wr W79 (Or.inl (List.mem_of_getElem? (i := 0) rfl))
    refine k_iload G X d1_80 (pc' := 82) rfl rfl ?_
    refine k_iload G X d1_82 (pc' := 84) rfl rfl ?_
    obtain ⟨v8, q_v8⟩ : ∃ z, (v1 + v4) = z := ⟨_, rfl⟩
    refine k_iadd G X d1_84 (pc' := 85) rfl q_v8 ?_
    have n_v8 := c_iadd v1 v4
    rw [q_v8] at n_v8
    have r_v8 := rgI v8
    refine k_iconst G X d1_85 (pc' := 86) rfl (z := (2 : Int32)) (by decide) ?_
    obtain ⟨v9, q_v9⟩ : ∃ z, (v8 + (2 : Int32)) = z := ⟨_, rfl⟩
    refine k_iadd G X d1_86 (pc' := 87) rfl q_v9 ?_
    have n_v9 := c_iadd v8 (2 : Int32)
    rw [q_v9] at n_v9
    have r_v9 := rgI v9
    refine k_reti G X d1_87 rfl ?_ (by decide) (by decide)
    exact ⟨_, g63, g75, rfl, KP, A, Or.inr ⟨bm63, bm75, by omega⟩⟩
  · refine k_iloadN G X d1_7 (pc' := 8) rfl rfl ?_
    refine k_iconst G X d1_8 (pc' := 9) rfl (z := (3 : Int32)) (by decide) ?_
    refine k_callS G X (argsL := [(.int p), (.int (3 : Int32))]) (rest := []) rfl (w5 hw) (w6 hw) (w3 hw) (w7 hw) (by decide) (cpx hw p (3 : Int32) 3 h0 n0 _ rfl (by decide)) d1_9 pd21 rfl (pc' := 12) rfl rfl (wd := 0) rfl (by decide) (by decide) (by decide) (by decide) (fun T h9 v sf9 X q => ?_)
    replace X := W.drop X
    obtain ⟨g9, rfl, hg9, e9⟩ := q
    replace X := X.eq e9
    have hg := hg9.2.2.2 rfl
    show Go Γ n0 _ T (mkF Γ.m 12 #[.val (.ref a), .val (.int zt), .val (.int p), .val (.int q), .unset, .unset] [(.int g9)])
    refine k_ldcI G X (w133 hw) d1_12 (pc' := 14) rfl ?_
    obtain ⟨v10, q_v10⟩ : ∃ z, (g9 - (65536 : Int32)) = z := ⟨_, rfl⟩
    refine k_isub G X d1_14 (pc' := 15) rfl q_v10 ?_
    have n_v10 := c_isub g9 (65536 : Int32)
    rw [q_v10] at n_v10
    have r_v10 := rgI v10
    refine k_istore G X d1_15 (pc' := 17) rfl (l' := #[.val (.ref a), .val (.int zt), .val (.int p), .val (.int q), .val (.int v10), .unset]) rfl ?_
    refine k_aloadN G X d1_17 (pc' := 18) rfl rfl rfl ?_
    refine k_iloadN G X d1_18 (pc' := 19) rfl rfl ?_
    refine k_ldcI G X (w9 hw) d1_19 (pc' := 21) rfl ?_
    refine k_iload G X d1_21 (pc' := 23) rfl rfl ?_
    refine k_bipush G X d1_23 (pc' := 25) rfl (z := (10 : Int32)) (by decide) ?_
    obtain ⟨v11, q_v11⟩ : ∃ z, ((v10.toUInt32 >>> ((10 : Int32) &&& 31).toUInt32).toInt32) = z := ⟨_, rfl⟩
    refine k_iushr G X d1_25 (pc' := 26) rfl q_v11 ?_
    have n_v11 := c_iushr v10 (10 : Int32) 10 rfl (by decide)
    rw [q_v11] at n_v11
    obtain ⟨v12, q_v12⟩ : ∃ z, ((55296 : Int32) + v11) = z := ⟨_, rfl⟩
    refine k_iadd G X d1_26 (pc' := 27) rfl q_v12 ?_
    have n_v12 := c_iadd (55296 : Int32) v11
    rw [q_v12] at n_v12
    have r_v12 := rgI v12
    obtain ⟨v13, q_v13⟩ : ∃ z, (v12.toUInt32.toUInt16.toUInt32.toInt32) = z := ⟨_, rfl⟩
    refine k_i2c G X d1_27 (pc' := 28) rfl q_v13 ?_
    have n_v13 := c_i2c v12
    rw [q_v13] at n_v13
    refine k_castore G X (i := t) (z := v13) A hzt (by omega) (nar_c (by omega) (by omega)) ge_a (List.mem_append_right [] gm_a.2) d1_28 (pc' := 29) rfl (fun T h28 W28 A X => ?_)
    replace KP := KP.wr W28 (Or.inl (List.mem_of_getElem? (i := 0) rfl))
    refine k_aloadN G X d1_29 (pc' := 30) rfl rfl rfl ?_
    refine k_iloadN G X d1_30 (pc' := 31) rfl rfl ?_
    refine k_iconst G X d1_31 (pc' := 32) rfl (z := (1 : Int32)) (by decide) ?_
    obtain ⟨v14, q_v14⟩ : ∃ z, (zt + (1 : Int32)) = z := ⟨_, rfl⟩
    refine k_iadd G X d1_32 (pc' := 33) rfl q_v14 ?_
    have n_v14 := c_iadd zt (1 : Int32)
    rw [q_v14] at n_v14
    have r_v14 := rgI v14
    refine k_ldcI G X (w135 hw) d1_33 (pc' := 35) rfl ?_
    refine k_iload G X d1_35 (pc' := 37) rfl rfl ?_
    refine k_sipush G X d1_37 (pc' := 40) rfl (z := (1023 : Int32)) (by decide) ?_
    obtain ⟨v15, q_v15⟩ : ∃ z, (v10 &&& (1023 : Int32)) = z := ⟨_, rfl⟩
    refine k_iand G X d1_40 (pc' := 41) rfl q_v15 ?_
    have n_v15 := and_rng v10 (m := (1023 : Int32)) 1023 rfl (by decide)
    rw [q_v15] at n_v15
    obtain ⟨v16, q_v16⟩ : ∃ z, ((56320 : Int32) + v15) = z := ⟨_, rfl⟩
    refine k_iadd G X d1_41 (pc' := 42) rfl q_v16 ?_
    have n_v16 := c_iadd (56320 : Int32) v15
    rw [q_v16] at n_v16
    have r_v16 := rgI v16
    obtain ⟨v17, q_v17⟩ : ∃ z, (v16.toUInt32.toUInt16.toUInt32.toInt32) = z := ⟨_, rfl⟩
    refine k_i2c G X d1_42 (pc' := 43) rfl q_v17 ?_
    have n_v17 := c_i2c v16
    rw [q_v17] at n_v17
    refine k_castore G X (i := (t + 1)) (z := v17) A (by omega) (by omega) (nar_c (by omega) (by omega)) ge_a (List.mem_append_right [] gm_a.2) d1_43 (pc' := 44) rfl (fun T h43 W43 A X => ?_)
    replace KP := KP.wr W43 (Or.inl (List.mem_of_getElem? (i := 0) rfl))
    refine k_iconst G X d1_44 (pc' := 45) rfl (z := (4 : Int32)) (by decide) ?_
    refine k_reti G X d1_45 rfl ?_ (by decide) (by decide)
    exact ⟨_, v13, v17, rfl, KP, A, Or.inl ⟨⟨by omega, by omega⟩, ⟨by omega, by omega⟩, rfl⟩⟩
set_option maxRecDepth 65536 in
set_option maxHeartbeats 40000000 in
theorem t_init_l {Z : State} {a0 : Array Value} (hw : HW a0 Z) (s a : Addr) (ka : ClassId) (n : Nat) (z cs : Int32) (c : Nat → Int32) (h0 : Heap) (n0 : Nat) (sf0 : List Addr) (hz : z.toInt = n) (hn : n ≤ 6) (hn1 : 1 ≤ n) (E : Exa Z h0 s "java/lang/String") (FV : Fld Z h0 s "java/lang/String" "value" "[B" .null) (FC : Fld Z h0 s "java/lang/String" "coder" "B" (.int (0 : Int32))) (A : Arf Z h0 a ka .char n (fun i => .int (c i))) (ne_s_a : s ≠ a) (gm_s : n0 ≤ s ∧ s ∈ sf0) (O : Old Z n0 h0) (S_CS : Sta Z h0 "java/lang/String" "COMPACT_STRINGS" "Z" (.int cs)) (hcs : cs ≠ 0) (hc : ∀ i, i < n → 0 ≤ (c i).toInt ∧ (c i).toInt ≤ 255) :
    MetW Z consts_1 sf0 (⟨"java/lang/String", "<init>", "([C)V"⟩ : MethodName) jdk_42_method_3_code 2 none [] ({ frames := 5, cells := 2, slots := 18, locals := 74 } : Room) #[(.ref s), (.ref a)] h0 n0 (fun v h sf => v = none ∧ Keep h0 h [s] ∧ ∃ b kb, h0.size ≤ b ∧ Str Z h s b kb n (fun i => (c i).toInt8.toInt32)) := by
  refine k_body (hEW hw) (f := (fun m => mkF m 0 #[.val (.ref s), .val (.ref a)] [])) pn_3 (fun m => by first | (simp [entryFrame, mkF, argsToLocals, Value.category, maxLocals]; done) | rfl) ?_
  intro Γ T G X
  have ge_s := gm_s.1
  have KP := Keep.refl h0 [s]
  show Go Γ n0 _ T (mkF Γ.m 0 #[.val (.ref s), .val (.ref a)] [])
  refine k_aloadN G X d3_0 (pc' := 1) rfl rfl rfl ?_
  refine k_aloadN G X d3_1 (pc' := 2) rfl rfl rfl ?_
  refine k_iconst G X d3_2 (pc' := 3) rfl (z := (0 : Int32)) (by decide) ?_
  refine k_aloadN G X d3_3 (pc' := 4) rfl rfl rfl ?_
  refine k_alen G X (z := z) A hz d3_4 (pc' := 5) rfl ?_
  refine k_anull G X d3_5 (pc' := 6) rfl ?_
  refine k_callI G X (argsL := [(.ref a), (.int (0 : Int32)), (.int z), .null]) (rest := []) rfl rfl (w16 hw) (w17 hw) (w12 hw) (w19 hw) (by decide) (str_init4 hw s a ka n z cs c h0 n0 _ hz hn hn1 E FV FC A ne_s_a ⟨ge_s, (List.mem_append_right [] gm_s.2)⟩ O S_CS hcs hc) d3_6 pd3 rfl (pc' := 9) rfl rfl (wd := 0) rfl (by decide) (by decide) (by decide) (by decide) (fun T h6 v sf6 X q => ?_)
  replace X := W.drop X
  obtain ⟨rfl, q⟩ := q
  show Go Γ n0 _ T (mkF Γ.m 9 #[.val (.ref s), .val (.ref a)] [])
  refine k_retv G X d3_9 rfl ?_ (by decide) (by decide)
  exact ⟨rfl, q⟩
theorem t_init {Z : State} {a0 : Array Value} (hw : HW a0 Z) (s a : Addr) (ka : ClassId) (n : Nat) (z z2 cs : Int32) (c : Nat → Int32) (h0 : Heap) (n0 : Nat) (sf0 : List Addr) (hz : z.toInt = n) (hn : n ≤ 6) (hn1 : 1 ≤ n) (E : Exa Z h0 s "java/lang/String") (FV : Fld Z h0 s "java/lang/String" "value" "[B" .null) (FC : Fld Z h0 s "java/lang/String" "coder" "B" (.int (0 : Int32))) (A : Arf Z h0 a ka .char n (fun i => .int (c i))) (ne_s_a : s ≠ a) (gm_s : n0 ≤ s ∧ s ∈ sf0) (O : Old Z n0 h0) (S_CS : Sta Z h0 "java/lang/String" "COMPACT_STRINGS" "Z" (.int cs)) (hcs : cs ≠ 0) (hc : ∀ i, i < n → 0 ≤ (c i).toInt ∧ (c i).toInt < 65536) (hz2 : z2.toInt = (2 * n : Nat)) (S_AD : Sta Z h0 "java/lang/StringUTF16" "$assertionsDisabled" "Z" (.int 1)) (S_HI : Sta Z h0 "java/lang/StringUTF16" "HI_BYTE_SHIFT" "I" (.int 0)) (S_LO : Sta Z h0 "java/lang/StringUTF16" "LO_BYTE_SHIFT" "I" (.int 8)) :
    MetW Z consts_1 sf0 (⟨"java/lang/String", "<init>", "([C)V"⟩ : MethodName) jdk_42_method_3_code 2 none [] ({ frames := 5, cells := 2, slots := 18, locals := 74 } : Room) #[.ref s, .ref a] h0 n0 (fun v h sf => v = none ∧ Keep h0 h [s] ∧ Txt Z h s n c) := by
  rcases first_big c n with hl | ⟨j, hj, hcj, hlo⟩
  · refine MetW.mono (t_init_l hw s a ka n z cs c h0 n0 sf0 hz hn hn1 E FV FC A ne_s_a gm_s O S_CS hcs (fun i hi => ⟨(hc i hi).1, hl i hi⟩)) ?_
    rintro v h sf ⟨q1, q2, b, kb, -, q3⟩
    exact ⟨q1, q2, Or.inl ⟨b, kb, q3, fun i hi => ⟨(hc i hi).1, hl i hi⟩⟩⟩
  · refine MetW.mono (u_init hw s a ka n j z z2 cs c h0 n0 sf0 E FV FC ne_s_a gm_s hn1 hz hz2 hn A O hc hj hcj hlo S_AD S_HI S_LO S_CS hcs) ?_
    rintro v h sf ⟨q1, q2, b, kb, -, q3⟩
    exact ⟨q1, q2, Or.inr ⟨b, kb, q3⟩⟩
theorem i6 {i : Nat} (h : i < 6) : i = 0 ∨ i = 1 ∨ i = 2 ∨ i = 3 ∨ i = 4 ∨ i = 5 := by omega
theorem step2 {c : Nat → Int32} {i : Nat} {r : Int32} {B : Nat → Prop} {T_ : Nat → Int} (hi : i + 1 < 6) (hP : PairOK (c i) (c (i + 1)) r) (h2 : B (i + 2)) (h1 : Bmp (c i) → B (i + 1)) (t2 : T_ (i + 2) = T_ i + r.toInt) (t1 : T_ (i + 1) = T_ i + wid (c i)) :
    (55296 ≤ (c i).toInt ∧ (c i).toInt < 57344 → 65536 ≤ (cpA c 6 i).toInt) ∧ B (i + cnt (cpA c 6 i)) ∧ i + cnt (cpA c 6 i) ≤ 6 ∧ T_ (i + cnt (cpA c 6 i)) = T_ i + wid (cpA c 6 i) := by
  rcases hP with ⟨a, b, d⟩ | ⟨a, b, d⟩
  · have e : cpA c 6 i = cpJ (c i) (c (i + 1)) := by unfold cpA; rw [if_pos ⟨a, hi, b⟩]
    have g := cpJ_rng a b
    have k : cnt (cpA c 6 i) = 2 := by unfold cnt; rw [e, if_neg (by omega)]
    have w : wid (cpA c 6 i) = 4 := by unfold wid; rw [e, if_neg (by omega), if_neg (by omega), if_neg (by omega)]
    rw [k, w]; exact ⟨fun _ => by rw [e]; exact g, h2, by omega, by rw [t2, d]⟩
  · have e : cpA c 6 i = c i := by unfold cpA; rw [if_neg (fun q => by have := q.1.1; have := q.1.2; exact a.2.2 ⟨by omega, by omega⟩)]
    have k : cnt (cpA c 6 i) = 1 := by unfold cnt; rw [e, if_pos a.2.1]
    rw [k, e]; exact ⟨fun q => absurd q a.2.2, h1 a, by omega, t1⟩
theorem step1 {c : Nat → Int32} {i : Nat} {B : Nat → Prop} {T_ : Nat → Int} (hi : i < 6) (a : Bmp (c i)) (h1 : B (i + 1)) (t1 : T_ (i + 1) = T_ i + wid (c i)) :
    (55296 ≤ (c i).toInt ∧ (c i).toInt < 57344 → 65536 ≤ (cpA c 6 i).toInt) ∧ B (i + cnt (cpA c 6 i)) ∧ i + cnt (cpA c 6 i) ≤ 6 ∧ T_ (i + cnt (cpA c 6 i)) = T_ i + wid (cpA c 6 i) := by
  have e : cpA c 6 i = c i := by unfold cpA; rw [if_neg (fun q => by have := q.1.1; have := q.1.2; exact a.2.2 ⟨by omega, by omega⟩)]
  have k : cnt (cpA c 6 i) = 1 := by unfold cnt; rw [e, if_pos a.2.1]
  rw [k, e]; exact ⟨fun q => absurd q a.2.2, h1, by omega, t1⟩
theorem wid_rng (x : Int32) : 1 ≤ wid x ∧ wid x ≤ 4 := by unfold wid; (repeat' split) <;> omega
theorem PairOK.rng {x y r : Int32} (h : PairOK x y r) : (0 ≤ x.toInt ∧ x.toInt < 65536) ∧ (0 ≤ y.toInt ∧ y.toInt < 65536) ∧ 2 ≤ r.toInt ∧ r.toInt ≤ 8 := by
  have w1 := wid_rng x; have w2 := wid_rng y
  rcases h with ⟨⟨a, a'⟩, ⟨b, b'⟩, d⟩ | ⟨⟨a, a', -⟩, ⟨b, b', -⟩, d⟩
  · exact ⟨⟨by omega, by omega⟩, ⟨by omega, by omega⟩, by omega, by omega⟩
  · exact ⟨⟨by omega, by omega⟩, ⟨by omega, by omega⟩, by omega, by omega⟩
def own_B (c : Nat → Int32) (i : Nat) : Prop := match i with | 1 => Bmp (c 1) | 3 => Bmp (c 3) | 5 => Bmp (c 5) | _ => True
def own_T (c : Nat → Int32) (r0 r1 r2 : Int32) (i : Nat) : Int := match i with | 0 => 0 | 1 => 0 + wid (c 0) | 2 => 0 + r0.toInt | 3 => 0 + r0.toInt + wid (c 2) | 4 => 0 + r0.toInt + r1.toInt | 5 => 0 + r0.toInt + r1.toInt + wid (c 4) | 6 => 0 + r0.toInt + r1.toInt + r2.toInt | _ => 0
theorem own_Tb (c : Nat → Int32) (r0 r1 r2 : Int32) (h0 : 2 ≤ r0.toInt ∧ r0.toInt ≤ 8) (h1 : 2 ≤ r1.toInt ∧ r1.toInt ≤ 8) (h2 : 2 ≤ r2.toInt ∧ r2.toInt ≤ 8) (i : Nat) : 0 ≤ own_T c r0 r1 r2 i ∧ own_T c r0 r1 r2 i ≤ 1000 := by
  have w0 := wid_rng (c 0); have w2 := wid_rng (c 2); have w4 := wid_rng (c 4)
  unfold own_T; split <;> omega
theorem own_pair {x y r : Int32} (h : PairOK x y r) (hx : Bmp x) : Bmp y ∧ r.toInt = wid x + wid y := by
  rcases h with ⟨a, -, -⟩ | ⟨-, b, d⟩
  · exact absurd ⟨a.1, by have := a.2; omega⟩ hx.2.2
  · exact ⟨b, d⟩
theorem own_pair' {x y r : Int32} (h : PairOK x y r) (hy : Bmp y) : r.toInt = wid x + wid y := by
  rcases h with ⟨-, a, -⟩ | ⟨-, -, d⟩
  · exact absurd ⟨by have := a.1; omega, a.2⟩ hy.2.2
  · exact d
theorem own_step (c : Nat → Int32) (r0 r1 r2 : Int32) (g0 : PairOK (c 0) (c (0 + 1)) r0) (g1 : PairOK (c 2) (c (2 + 1)) r1) (g2 : PairOK (c 4) (c (4 + 1)) r2) (i : Nat) (hi : i < 6) (hB : own_B c i) :
    (55296 ≤ (c i).toInt ∧ (c i).toInt < 57344 → 65536 ≤ (cpA c 6 i).toInt) ∧ own_B c (i + cnt (cpA c 6 i)) ∧ i + cnt (cpA c 6 i) ≤ 6 ∧ own_T c r0 r1 r2 (i + cnt (cpA c 6 i)) = own_T c r0 r1 r2 i + wid (cpA c 6 i) := by
  rcases i6 hi with rfl | rfl | rfl | rfl | rfl | rfl
  · exact step2 (by decide) g0 trivial (fun h => (own_pair g0 h).1) rfl rfl
  · exact step1 (by decide) hB trivial (by show 0 + r0.toInt = 0 + wid (c 0) + wid (c 1); have := own_pair' (y := c 1) g0 hB; omega)
  · exact step2 (by decide) g1 trivial (fun h => (own_pair g1 h).1) rfl rfl
  · exact step1 (by decide) hB trivial (by show 0 + r0.toInt + r1.toInt = 0 + r0.toInt + wid (c 2) + wid (c 3); have := own_pair' (y := c 3) g1 hB; omega)
  · exact step2 (by decide) g2 trivial (fun h => (own_pair g2 h).1) rfl rfl
  · exact step1 (by decide) hB trivial (by show 0 + r0.toInt + r1.toInt + r2.toInt = 0 + r0.toInt + r1.toInt + wid (c 4) + wid (c 5); have := own_pair' (y := c 5) g2 hB; omega)
theorem pn_0 : plainFor (⟨"com/example/half_message_commit/halfmessagecommit/protocol/TextUtf8LengthPinLaw", "law", "(IIIIII)Z"⟩ : MethodName) = true := plainFor_of_name (by first | (simp [plainName, overriddenIn]; done) | decide +kernel)
set_option maxRecDepth 65536 in
set_option maxHeartbeats 40000000 in
theorem rm0 {Z : State} {a0 : Array Value} (hw : HW a0 Z) (p0 p1 p2 p3 p4 p5 cs : Int32) (fm : Value) (h0 : Heap) (n0 : Nat) (O : Old Z n0 h0) (S_CS : Sta Z h0 "java/lang/String" "COMPACT_STRINGS" "Z" (.int cs)) (hcs : cs ≠ 0) (S_FM : Sta Z h0 "jdk/internal/util/Preconditions" "SIOOBE_FORMATTER" "Ljava/util/function/BiFunction;" fm) (hfm : fm.isRef = true) (S_AD : Sta Z h0 "java/lang/StringUTF16" "$assertionsDisabled" "Z" (.int 1)) (S_HI : Sta Z h0 "java/lang/StringUTF16" "HI_BYTE_SHIFT" "I" (.int 0)) (S_LO : Sta Z h0 "java/lang/StringUTF16" "LO_BYTE_SHIFT" "I" (.int 8)) :
    MetW Z consts_1 [] x code maxLocals ret tables_1 room_1 #[(.int p0), (.int p1), (.int p2), (.int p3), (.int p4), (.int p5)] h0 n0 (fun v h sf => v = some (.int 1)) := by
  refine k_body (hEW hw) (f := (fun m => mkF m 0 #[.val (.int p0), .val (.int p1), .val (.int p2), .val (.int p3), .val (.int p4), .val (.int p5), .unset, .unset, .unset] [])) pn_0 (fun m => by first | (simp [entryFrame, mkF, argsToLocals, Value.category, maxLocals]; done) | rfl) ?_
  intro Γ T G X
  show Go Γ n0 _ T (mkF Γ.m 0 #[.val (.int p0), .val (.int p1), .val (.int p2), .val (.int p3), .val (.int p4), .val (.int p5), .unset, .unset, .unset] [])
  refine k_bipush G X at_0 (pc' := 2) rfl (z := (6 : Int32)) (by decide) ?_
  refine k_newP G X (aty := .char) (n := 6) (cap := 6) (w0 hw) at_2 (pc' := 4) rfl rfl (by decide) (by decide) (by decide) (by decide) (fun T h2 b2 k2 s_b2 E2 A_b2 X => ?_)
  have ge_b2 : n0 ≤ b2 := Nat.le_trans (Jvm.OwnK.Old_le O) (Nat.le_of_eq s_b2)
  replace O := O.ext E2
  replace S_CS := S_CS.ext E2
  replace S_FM := S_FM.ext E2
  replace S_AD := S_AD.ext E2
  replace S_HI := S_HI.ext E2
  replace S_LO := S_LO.ext E2
  replace A_b2 : Arf Z h2 b2 k2 .char 6 (fun _ => (.int (0 : Int32))) := A_b2
  refine k_astore G X at_4 (pc' := 6) rfl rfl (l' := #[.val (.int p0), .val (.int p1), .val (.int p2), .val (.int p3), .val (.int p4), .val (.int p5), .val (.ref b2), .unset, .unset]) rfl ?_
  refine k_aload G X at_6 (pc' := 8) rfl rfl rfl ?_
  refine k_iconst G X at_8 (pc' := 9) rfl (z := (0 : Int32)) (by decide) ?_
  refine k_iloadN G X at_9 (pc' := 10) rfl rfl ?_
  refine k_iloadN G X at_10 (pc' := 11) rfl rfl ?_
  refine k_callS G X (argsL := [(.ref b2), (.int (0 : Int32)), (.int p0), (.int p1)]) (rest := []) rfl (w1 hw) (w2 hw) (w3 hw) (w4 hw) (by decide) (fil hw b2 k2 (0 : Int32) p0 p1 0 _ h2 n0 _ A_b2 ⟨ge_b2, (List.mem_of_getElem? (i := 0) rfl)⟩ rfl (by decide)) at_11 pd22 rfl (pc' := 14) rfl rfl (wd := 0) rfl (by decide) (by decide) (by decide) (by decide) (fun T h11 v sf11 X q => ?_)
  replace X := W.drop X
  obtain ⟨r0, x0, y0, rfl, K11, A11, hP0⟩ := q
  replace S_CS := Sta_keepL S_CS K11 (allS (Pln_arf A_b2) (all0))
  replace S_FM := Sta_keepL S_FM K11 (allS (Pln_arf A_b2) (all0))
  replace S_AD := Sta_keepL S_AD K11 (allS (Pln_arf A_b2) (all0))
  replace S_HI := Sta_keepL S_HI K11 (allS (Pln_arf A_b2) (all0))
  replace S_LO := Sta_keepL S_LO K11 (allS (Pln_arf A_b2) (all0))
  replace O := O.keep K11 (allS ge_b2 (all0))
  have A_b2 := A11
  have rg0 := hP0.rng
  show Go Γ n0 _ T (mkF Γ.m 14 #[.val (.int p0), .val (.int p1), .val (.int p2), .val (.int p3), .val (.int p4), .val (.int p5), .val (.ref b2), .unset, .unset] [(.int r0)])
  refine k_aload G X at_14 (pc' := 16) rfl rfl rfl ?_
  refine k_iconst G X at_16 (pc' := 17) rfl (z := (2 : Int32)) (by decide) ?_
  refine k_iloadN G X at_17 (pc' := 18) rfl rfl ?_
  refine k_iloadN G X at_18 (pc' := 19) rfl rfl ?_
  refine k_callS G X (argsL := [(.ref b2), (.int (2 : Int32)), (.int p2), (.int p3)]) (rest := [(.int r0)]) rfl (w1 hw) (w2 hw) (w3 hw) (w4 hw) (by decide) (fil hw b2 k2 (2 : Int32) p2 p3 2 _ h11 n0 _ A_b2 ⟨ge_b2, (List.mem_of_getElem? (i := 0) rfl)⟩ rfl (by decide)) at_19 pd22 rfl (pc' := 22) rfl rfl (wd := 1) rfl (by decide) (by decide) (by decide) (by decide) (fun T h19 v sf19 X q => ?_)
  replace X := W.drop X
  obtain ⟨r1, x1, y1, rfl, K19, A19, hP1⟩ := q
  replace S_CS := Sta_keepL S_CS K19 (allS (Pln_arf A_b2) (all0))
  replace S_FM := Sta_keepL S_FM K19 (allS (Pln_arf A_b2) (all0))
  replace S_AD := Sta_keepL S_AD K19 (allS (Pln_arf A_b2) (all0))
  replace S_HI := Sta_keepL S_HI K19 (allS (Pln_arf A_b2) (all0))
  replace S_LO := Sta_keepL S_LO K19 (allS (Pln_arf A_b2) (all0))
  replace O := O.keep K19 (allS ge_b2 (all0))
  have A_b2 := A19
  have rg1 := hP1.rng
  show Go Γ n0 _ T (mkF Γ.m 22 #[.val (.int p0), .val (.int p1), .val (.int p2), .val (.int p3), .val (.int p4), .val (.int p5), .val (.ref b2), .unset, .unset] [(.int r1), (.int r0)])
  refine k_iadd G X at_22 (pc' := 23) rfl rfl ?_
  refine k_aload G X at_23 (pc' := 25) rfl rfl rfl ?_
  refine k_iconst G X at_25 (pc' := 26) rfl (z := (4 : Int32)) (by decide) ?_
  refine k_iload G X at_26 (pc' := 28) rfl rfl ?_
  refine k_iload G X at_28 (pc' := 30) rfl rfl ?_
  refine k_callS G X (argsL := [(.ref b2), (.int (4 : Int32)), (.int p4), (.int p5)]) (rest := [(.int (r0 + r1))]) rfl (w1 hw) (w2 hw) (w3 hw) (w4 hw) (by decide) (fil hw b2 k2 (4 : Int32) p4 p5 4 _ h19 n0 _ A_b2 ⟨ge_b2, (List.mem_of_getElem? (i := 0) rfl)⟩ rfl (by decide)) at_30 pd22 rfl (pc' := 33) rfl rfl (wd := 1) rfl (by decide) (by decide) (by decide) (by decide) (fun T h30 v sf30 X q => ?_)
  replace X := W.drop X
  obtain ⟨r2, x2, y2, rfl, K30, A30, hP2⟩ := q
  replace S_CS := Sta_keepL S_CS K30 (allS (Pln_arf A_b2) (all0))
  replace S_FM := Sta_keepL S_FM K30 (allS (Pln_arf A_b2) (all0))
  replace S_AD := Sta_keepL S_AD K30 (allS (Pln_arf A_b2) (all0))
  replace S_HI := Sta_keepL S_HI K30 (allS (Pln_arf A_b2) (all0))
  replace S_LO := Sta_keepL S_LO K30 (allS (Pln_arf A_b2) (all0))
  replace O := O.keep K30 (allS ge_b2 (all0))
  have A_b2 := A30
  have rg2 := hP2.rng
  show Go Γ n0 _ T (mkF Γ.m 33 #[.val (.int p0), .val (.int p1), .val (.int p2), .val (.int p3), .val (.int p4), .val (.int p5), .val (.ref b2), .unset, .unset] [(.int r2), (.int (r0 + r1))])
  refine k_iadd G X at_33 (pc' := 34) rfl rfl ?_
  refine k_istore G X at_34 (pc' := 36) rfl (l' := #[.val (.int p0), .val (.int p1), .val (.int p2), .val (.int p3), .val (.int p4), .val (.int p5), .val (.ref b2), .val (.int ((r0 + r1) + r2)), .unset]) rfl ?_
  refine k_new G X (w10 hw) (w11 hw) (w12 hw) at_36 (pc' := 39) rfl (by decide) (by decide) (fun T h36 b36 s_b36 E36 X_b36 D36 X => ?_)
  have ne_b2_b36 : b2 ≠ b36 := Nat.ne_of_lt (Nat.lt_of_lt_of_eq A_b2.lt s_b36)
  have ge_b36 : n0 ≤ b36 := Nat.le_trans (Jvm.OwnK.Old_le O) (Nat.le_of_eq s_b36)
  replace O := O.ext E36
  replace S_CS := S_CS.ext E36
  replace S_FM := S_FM.ext E36
  replace S_AD := S_AD.ext E36
  replace S_HI := S_HI.ext E36
  replace S_LO := S_LO.ext E36
  replace A_b2 := A_b2.ext E36
  have F_b36_coder : Fld Z h36 b36 "java/lang/String" "coder" "B" (.int (0 : Int32)) := D36 (Or.inr (w55 hw)) (ty := .byte) (by decide)
  have F_b36_value : Fld Z h36 b36 "java/lang/String" "value" "[B" .null := D36 (Or.inr (w57 hw)) (ty := (.array .byte)) (by decide)
  refine k_dup G X at_39 (pc' := 40) rfl rfl ?_
  refine k_aload G X at_40 (pc' := 42) rfl rfl rfl ?_
  obtain ⟨c, hce⟩ : ∃ c : Nat → Int32, c = fun i => match i with | 0 => x0 | 1 => y0 | 2 => x1 | 3 => y1 | 4 => x2 | 5 => y2 | _ => 0 := ⟨_, rfl⟩
  have hc : ∀ i, i < 6 → 0 ≤ (c i).toInt ∧ (c i).toInt < 65536 := by intro i hi; rw [hce]; rcases i6 hi with rfl | rfl | rfl | rfl | rfl | rfl; exact rg0.1; exact rg0.2.1; exact rg1.1; exact rg1.2.1; exact rg2.1; exact rg2.2.1
  replace A_b2 := A_b2.congr (g := fun i => .int (c i)) (fun i hi => by rw [hce]; rcases i6 hi with rfl | rfl | rfl | rfl | rfl | rfl <;> rfl)
  refine k_callI G X (argsL := [(.ref b2)]) (rest := [(.ref b36)]) rfl rfl (w13 hw) (w14 hw) (w12 hw) (w15 hw) (by decide) (t_init hw b36 b2 k2 6 (6 : Int32) (12 : Int32) cs c h36 n0 _ rfl (by decide) (by decide) X_b36 F_b36_value F_b36_coder A_b2 (Ne.symm ne_b2_b36) ⟨ge_b36, (List.mem_of_getElem? (i := 0) rfl)⟩ O S_CS hcs hc rfl S_AD S_HI S_LO) at_42 pd23 rfl (pc' := 45) rfl rfl (wd := 1) rfl (by decide) (by decide) (by decide) (by decide) (fun T h42 v sf42 X q => ?_)
  replace X := W.drop X
  obtain ⟨rfl, KS, TT⟩ := q
  replace S_CS := Sta_keepL S_CS KS (allS (Pln_exa X_b36) (all0))
  replace S_FM := Sta_keepL S_FM KS (allS (Pln_exa X_b36) (all0))
  replace S_AD := Sta_keepL S_AD KS (allS (Pln_exa X_b36) (all0))
  replace S_HI := Sta_keepL S_HI KS (allS (Pln_exa X_b36) (all0))
  replace S_LO := Sta_keepL S_LO KS (allS (Pln_exa X_b36) (all0))
  replace O := O.keep KS (allS ge_b36 (all0))
  replace X_b36 := X_b36.keep KS
  show Go Γ n0 _ T (mkF Γ.m 45 #[.val (.int p0), .val (.int p1), .val (.int p2), .val (.int p3), .val (.int p4), .val (.int p5), .val (.ref b2), .val (.int ((r0 + r1) + r2)), .unset] [(.ref b36)])
  refine k_astore G X at_45 (pc' := 47) rfl rfl (l' := #[.val (.int p0), .val (.int p1), .val (.int p2), .val (.int p3), .val (.int p4), .val (.int p5), .val (.ref b2), .val (.int ((r0 + r1) + r2)), .val (.ref b36)]) rfl ?_
  refine k_ldcS G X (n := 16) (w58 hw) (strAtoms hw) at_47 (pc' := 49) rfl (by decide) (by decide) (by decide) (by decide) (fun T h47 s47 E47 X => ?_)
  replace O := O.ext E47
  replace S_CS := S_CS.ext E47
  replace S_FM := S_FM.ext E47
  replace S_AD := S_AD.ext E47
  replace S_HI := S_HI.ext E47
  replace S_LO := S_LO.ext E47
  replace X_b36 := X_b36.ext E47
  replace TT := TT.ext E47
  refine k_aload G X at_49 (pc' := 51) rfl rfl rfl ?_
  have hst : ∀ i, i < 6 → own_B c i → (55296 ≤ (c i).toInt ∧ (c i).toInt < 57344 → 65536 ≤ (cpA c 6 i).toInt) ∧ own_B c (i + cnt (cpA c 6 i)) ∧ i + cnt (cpA c 6 i) ≤ 6 ∧ own_T c r0 r1 r2 (i + cnt (cpA c 6 i)) = own_T c r0 r1 r2 i + wid (cpA c 6 i) := by
    have g0 : PairOK (c 0) (c (0 + 1)) r0 := by rw [hce]; exact hP0
    have g1 : PairOK (c 2) (c (2 + 1)) r1 := by rw [hce]; exact hP1
    have g2 : PairOK (c 4) (c (4 + 1)) r2 := by rw [hce]; exact hP2
    exact own_step c r0 r1 r2 g0 g1 g2
  have w0 := wid_rng (c 0); have w2 := wid_rng (c 2); have w4 := wid_rng (c 4)
  refine k_callS G X (argsL := [(.ref s47), (.ref b36)]) (rest := []) rfl (w61 hw) (w62 hw) (w63 hw) (w64 hw) (by decide) (utf hw s47 b36 6 (6 : Int32) (12 : Int32) cs c fm (own_B c) (own_T c r0 r1 r2) h47 n0 _ TT rfl rfl S_CS hcs (by decide) hc S_FM hfm S_AD S_HI S_LO trivial rfl (own_Tb c r0 r1 r2 rg0.2.2 rg1.2.2 rg2.2.2) hst) at_51 pd24 rfl (pc' := 54) rfl rfl (wd := 0) rfl (by decide) (by decide) (by decide) (by decide) (fun T h51 v sf51 X q => ?_)
  replace X := W.drop X
  obtain ⟨u1, rfl, hu1, e51⟩ := q
  replace X := X.eq e51
  replace hu1 : u1.toInt = 0 + r0.toInt + r1.toInt + r2.toInt := hu1
  rw [Int.zero_add] at hu1
  show Go Γ n0 _ T (mkF Γ.m 54 #[.val (.int p0), .val (.int p1), .val (.int p2), .val (.int p3), .val (.int p4), .val (.int p5), .val (.ref b2), .val (.int ((r0 + r1) + r2)), .val (.ref b36)] [(.long u1)])
  refine k_iload G X at_54 (pc' := 56) rfl rfl ?_
  refine k_i2l G X at_56 (pc' := 57) rfl rfl ?_
  refine k_lcmp G X at_57 (pc' := 58) rfl rfl ?_
  obtain ⟨cz, hcz⟩ : ∃ z, (if u1 > (((r0 + r1) + r2).toInt64) then (1 : Int32) else if u1 = (((r0 + r1) + r2).toInt64) then 0 else -1) = z := ⟨_, rfl⟩
  have n_cz := lcmp_toInt hcz
  rw [hcz]
  have s1 : (r0 + r1).toInt = r0.toInt + r1.toInt := iadd_toInt (by omega) (by omega)
  have s2 : ((r0 + r1) + r2).toInt = r0.toInt + r1.toInt + r2.toInt := by rw [iadd_toInt (by omega) (by omega), s1]
  have s3 := c_i2l ((r0 + r1) + r2)
  obtain rfl : (0 : Int32) = cz := of_toInt (by rw [n_cz.2.1 (by rw [s3, s2, hu1]), z32])
  refine k_if_ne G X at_58 (pc' := 77) rfl (by decide) (pc'' := 61) rfl (fun c58 => (absurd c58 (by decide))) (fun c58 => ?_)
  refine k_ldcS G X (n := 16) (w58 hw) (strAtoms hw) at_61 (pc' := 63) rfl (by decide) (by decide) (by decide) (by decide) (fun T h61 s61 E61 X => ?_)
  replace O := O.ext E61
  replace S_CS := S_CS.ext E61
  replace S_FM := S_FM.ext E61
  replace S_AD := S_AD.ext E61
  replace S_HI := S_HI.ext E61
  replace S_LO := S_LO.ext E61
  replace X_b36 := X_b36.ext E61
  replace TT := TT.ext E61
  refine k_ldcH G X (n := 0) (vs := ([] : List Int32)) (z := 0) (w132 hw) (strAtoms hw) (by decide) ⟨by decide, by decide⟩ (by decide) at_63 (pc' := 65) rfl (by decide) (by decide) (by decide) (by decide) (fun T h63 sE sEd k63 E63 Xs Fc Fv Fa hne63 X => ?_)
  replace O := O.ext E63
  replace S_CS := S_CS.ext E63
  replace S_FM := S_FM.ext E63
  replace S_AD := S_AD.ext E63
  replace S_HI := S_HI.ext E63
  replace S_LO := S_LO.ext E63
  replace X_b36 := X_b36.ext E63
  replace TT := TT.ext E63
  have SE0 : Str Z h63 sE sEd k63 0 (fun i => ([] : List Int32).getD i 0) := ⟨Xs, Fc, Fv, Fa⟩
  have X_sE := Xs
  have ne_b36_sE := (hne63 b36 (List.mem_of_getElem? (i := 0) rfl)).1
  have ne_b36_sEd := (hne63 b36 (List.mem_of_getElem? (i := 0) rfl)).2
  have ne_b2_sE := (hne63 b2 (List.mem_of_getElem? (i := 1) rfl)).1
  have ne_b2_sEd := (hne63 b2 (List.mem_of_getElem? (i := 1) rfl)).2
  refine k_callS G X (argsL := [(.ref s61), (.ref sE)]) (rest := []) rfl (w61 hw) (w62 hw) (w63 hw) (w64 hw) (by decide) (utf hw s61 sE 0 (0 : Int32) (0 : Int32) cs (fun _ => 0) fm (fun _ => True) (fun _ => 0) h63 n0 _ (Or.inl ⟨_, _, ⟨SE0.1, SE0.2.1, SE0.2.2.1, SE0.2.2.2.congr fun i hi => absurd hi (Nat.not_lt_zero _)⟩, fun i hi => absurd hi (Nat.not_lt_zero _)⟩) rfl rfl S_CS hcs (by decide) (fun i hi => absurd hi (Nat.not_lt_zero _)) S_FM hfm S_AD S_HI S_LO trivial rfl (fun _ => by decide) (fun i hi => absurd hi (Nat.not_lt_zero _))) at_65 pd24 rfl (pc' := 68) rfl rfl (wd := 0) rfl (by decide) (by decide) (by decide) (by decide) (fun T h65 v sf65 X q => ?_)
  replace X := W.drop X
  obtain ⟨u2, rfl, hu2, e65⟩ := q
  replace X := X.eq e65
  replace hu2 : u2.toInt = 0 := hu2
  show Go Γ n0 _ T (mkF Γ.m 68 #[.val (.int p0), .val (.int p1), .val (.int p2), .val (.int p3), .val (.int p4), .val (.int p5), .val (.ref b2), .val (.int ((r0 + r1) + r2)), .val (.ref b36)] [(.long u2)])
  refine k_lconst G X at_68 (pc' := 69) rfl (z := (0 : Int64)) (by decide) ?_
  refine k_lcmp G X at_69 (pc' := 70) rfl rfl ?_
  obtain ⟨cy, hcy⟩ : ∃ z, (if u2 > (0 : Int64) then (1 : Int32) else if u2 = (0 : Int64) then 0 else -1) = z := ⟨_, rfl⟩
  have n_cy := lcmp_toInt hcy
  rw [hcy]
  obtain rfl : (0 : Int32) = cy := of_toInt (by rw [n_cy.2.1 (by rw [hu2]; rfl), z32])
  refine k_if_ne G X at_70 (pc' := 77) rfl (by decide) (pc'' := 73) rfl (fun c70 => (absurd c70 (by decide))) (fun c70 => ?_)
  refine k_iconst G X at_73 (pc' := 74) rfl (z := (1 : Int32)) (by decide) ?_
  refine k_goto G X at_74 (by decide) (pc' := 78) rfl ?_
  refine k_retb G X at_78 (t := .boolean) rfl (by simp) rfl ?_ (by decide) (by decide)
  rfl
theorem s_int {s : State} {args : Array Value} {C n d : String} {z : Int32} (w : (Cond.initializedFor C n d).before args s = true) (h : (Cond.eq (Term.static C n d) (Term.int z)).before args s = true) : Sta s s.heap C n d (.int z) := by
  have h3 := Cond.before_iff.mp h
  cases hf : (Term.static C n d).eval args s none [] s with
  | none => simp [Cond.value, hf] at h3
  | some v =>
    simp only [Cond.value, hf, Term.int_eval] at h3
    cases v <;> simp at h3
    subst h3
    exact Sta.start hf (Or.inl w)
set_option maxRecDepth 65536 in
set_option maxHeartbeats 40000000 in
theorem comes_1 {Post : Tables → Env → Array Value → State → Outcome → State → Prop} (hpost : ∀ tb e args s v u, (limb_1_1.after args s (.returned v) u = true ∧ limb_1_2.after args s (.returned v) u = true ∧ True) → ReturnedEndW s (.returned v) u (Jvm.fieldLocs frame_1_writes args s ++ Jvm.arrayLocs frame_1_arrays args s ++ Jvm.staticLocs frame_1_statics s) 24 2176 → Post tb e args s (.returned v) u) :
    ArmFor flags0 classFile x code maxLocals ret World_1 tables_1 room_1 Calls_1 rest_1 Pre_1 Post := by
  intro l hfl _ _ p e ha hc hk s m args below hf hA hF happ hP
  obtain ⟨hcalls, hrest, hpre⟩ := hP
  obtain ⟨-, -, -, hnamed, -, -, -, hat⟩ := (Spec.applies_iff hf).mp happ
  obtain ⟨hg, hn⟩ := and_e (Cond.before_iff.mp (show (Jvm.Cond.and given_1 narrow_1).before args s = true from hpre))
  obtain ⟨hg0, hgr0⟩ := and_e hg
  obtain ⟨hg1, hgr1⟩ := and_e hgr0
  obtain ⟨hg2, hgr2⟩ := and_e hgr1
  obtain ⟨hg3, hgr3⟩ := and_e hgr2
  obtain ⟨hg4, hgr4⟩ := and_e hgr3
  obtain ⟨hg5, hgr5⟩ := and_e hgr4
  obtain ⟨w0', w1', w2', w3', w4', w5', rfl⟩ : ∃ w0' w1' w2' w3' w4' w5' : Value, args = #[w0', w1', w2', w3', w4', w5'] := by
    have hs : args.size = 6 := by simpa [Cond.value, given_1] using hg0
    obtain ⟨L⟩ := args
    match L, hs with
    | [w0', w1', w2', w3', w4', w5'], _ => exact ⟨w0', w1', w2', w3', w4', w5', rfl⟩
  have hw : HW _ s := fun d (hd : d ∈ tables_1) => atoms_spec (ws := Jvm.Cond.code x code maxLocals ret :: tables_1) hat d (List.mem_cons_of_mem _ hd)
  have hfit : Fit s := fun {y c} hc i hi => by
    obtain ⟨ha, rfl⟩ := Array.getElem?_eq_some_iff.mp hc
    have q := List.all_eq_true.mp ((Array.all_eq_true_iff_forall_mem.mp hF) _ (Array.getElem_mem ha)) i (List.mem_range.mpr hi)
    simpa [Array.getElem?_eq_getElem hi] using q
  obtain ⟨hsets, hown0⟩ := atoms_of _ (rest_1_c_eq ▸ (show rest_1_c.before _ s = true from hrest))
  have hr0 := Cond.before_iff.mp hown0
  obtain ⟨i0, ei0⟩ := is_v hg1
  obtain rfl : w0' = (.int i0) := Option.some.inj ei0
  obtain ⟨i1, ei1⟩ := is_v hg2
  obtain rfl : w1' = (.int i1) := Option.some.inj ei1
  obtain ⟨i2, ei2⟩ := is_v hg3
  obtain rfl : w2' = (.int i2) := Option.some.inj ei2
  obtain ⟨i3, ei3⟩ := is_v hg4
  obtain rfl : w3' = (.int i3) := Option.some.inj ei3
  obtain ⟨i4, ei4⟩ := is_v hg5
  obtain rfl : w4' = (.int i4) := Option.some.inj ei4
  obtain ⟨i5, ei5⟩ := is_v hgr5
  obtain rfl : w5' = (.int i5) := Option.some.inj ei5
  have hcw := (hsets _ (List.mem_of_getElem? (i := 2) rfl))
  obtain ⟨cs, S_CS, hcs⟩ := s_cs (hsets _ (List.mem_of_getElem? (i := 0) rfl)) (hsets _ (List.mem_of_getElem? (i := 1) rfl)) (hsets _ (List.mem_of_getElem? (i := 2) rfl))
  obtain ⟨fm, S_FM, hfm⟩ := s_isRef (hsets _ (List.mem_of_getElem? (i := 7) rfl)) (hsets _ (List.mem_of_getElem? (i := 8) rfl))
  have S_AD := s_int (hsets _ (List.mem_of_getElem? (i := 11) rfl)) (hsets _ (List.mem_of_getElem? (i := 12) rfl))
  have S_HI := s_int (hsets _ (List.mem_of_getElem? (i := 14) rfl)) (hsets _ (List.mem_of_getElem? (i := 15) rfl))
  have S_LO := s_int (hsets _ (List.mem_of_getElem? (i := 17) rfl)) (hsets _ (List.mem_of_getElem? (i := 18) rfl))
  obtain ⟨n, o, h1, h2, h3, _, L, rfl, ⟨⟨_, rfl, -⟩, N⟩, -, hq⟩ := rm0 hw i0 i1 i2 i3 i4 i5 cs fm s.heap s.heap.size (Old.start s) S_CS hcs S_FM hfm S_AD S_HI S_LO l p e ha hc hk s m _ below hf ((Spec.applies_iff_loose hf).mp happ).1 ⟨rfl, State.Warmed39.refl s, rfl, CHv.start (hEW hw).choose_spec (fun p hp => hcalls.1 p hp) hcw (hw _ (List.mem_of_getElem? (i := 28) rfl)) (hw _ (List.mem_of_getElem? (i := 11) rfl)), fun x hx => by cases hx⟩ trivial
  exact ⟨n, _, h1, h2, h3, hpost _ _ _ _ _ _ ⟨Cond.after_iff.mpr rfl, Cond.after_iff.mpr (eq_i res_at (Term.int_eval (1)) rfl), trivial⟩ ⟨hq.1, hq.2.1, hq.2.2.1, (hq.2.2.2.sift fun y hy => Or.inr (N y hy)).mono (by decide) (by decide)⟩⟩
theorem main_1_1 : Claimed_1_1 := comes_1 fun _ _ _ _ _ _ h hF => ⟨h.1, hF⟩
theorem main_1_2 : Claimed_1_2 := comes_1 fun _ _ _ _ _ _ h hF => ⟨h.2.1, hF⟩
end Jvm.Pilot.@@N@@
namespace Jvm.Pilot.@@N@@
open Jvm Jvm.ClassFile Sem Op Lib Jvm.Free Jvm.Stand Jvm.Pilot.@@N@@.Jvm.D
/-! MADE BY PROGRAM (witnessworld.py) out of the Statement's table words and the real class files: 21 classes; the members and pool entries that the words name. The judged class is class 1, her method 3. -/
namespace start1
open Jvm.ClassFile
def u (s : String) : CpInfo := .utf8 (stringToUtf16 s)
/-- a pool by its gaps: so many unusable entries, then the entry; so many at the end -/
def gap : Nat → List CpInfo → List CpInfo
  | 0, r => r
  | n + 1, r => .unusable :: gap n r
def poolList (es : List (Nat × CpInfo)) (last : Nat) : List CpInfo := es.foldr (fun e r => gap e.1 (e.2 :: r)) (gap last [])
def pool (es : List (Nat × CpInfo)) (last : Nat) : Array CpInfo := ⟨poolList es last⟩
def fileOf (pool : Array CpInfo) (this : Nat) (attrs : Array Attribute := #[]) (ms : Array MethodInfo := #[]) (fl : Nat := 33) (sup : Nat := 0) (ifs : Array Nat := #[]) (fds : Array FieldInfo := #[]) : ClassFile where
  minorVersion := 0
  majorVersion := 65
  constantPool := pool
  accessFlags := fl
  thisClass := this
  superClass := sup
  interfaces := ifs
  fields := fds
  methods := ms
  attributes := attrs
def plain (name : String) (sup : Option ClassId) : Class where
  name := name
  kind := .ordinary
  loader := none
  accessFlags := 33
  super := sup
  interfaces := #[]
  cf := none
  fields := #[]
  methods := #[]
  instanceTypes := #[]
  staticTypes := #[]
  resolved := #[]
  callSites := []
  init := .initialized
  statics := none
  mirror := none

def pool0 : Array CpInfo := pool [(5, u "<init>"), (0, u "()V"), (1, .class_ 10), (1, u "java/lang/Object")] 113

def k0c0 : Code := { maxStack := 0, maxLocals := 1, code := object_method_1_code, exceptionTable := #[], attributes := #[] }
def k0m0 : Method := { name := "<init>", desc := "()V", sig := { parameters := [], returnType := none }, accessFlags := 1, code := some k0c0 }
/-- java/lang/Object -/
def k0 : Class := { plain "java/lang/Object" none with
  accessFlags := 33
  interfaces := #[]
  cf := some (fileOf pool0 8 #[] #[{ accessFlags := 1, nameIndex := 5, descriptorIndex := 6, attributes := #[] }] 33 0 #[] #[])
  fields := #[]
  methods := #[k0m0]
  instanceTypes := #[]
  staticTypes := #[]
  resolved := Array.replicate 124 none
  statics := none }

def pool1 : Array CpInfo := pool [(2, .class_ 4), (1, u "java/lang/Object"), (0, u "<init>"), (0, u "()V"), (0, .integer 63488), (0, .integer 55296), (0, .integer 57343), (0, .integer 65536), (0, .integer 1048576), (0, .methodref 13 14), (0, .class_ 15), (0, .nameAndType 16 17), (0, u "com/example/half_message_commit/halfmessagecommit/protocol/TextUtf8LengthPinLaw"), (0, u "cp"), (0, u "(II)I"), (0, .integer 56320), (0, .methodref 13 20), (0, .nameAndType 21 22), (0, u "fill"), (0, u "([CIII)I"), (0, .class_ 24), (0, u "java/lang/String"), (0, .methodref 23 26), (0, .nameAndType 5 27), (0, u "([C)V"), (0, .string 29), (0, u "text"), (0, .methodref 31 32), (0, .class_ 33), (0, .nameAndType 34 35), (0, u "com/example/half_message_commit/halfmessagecommit/protocol/Text"), (0, u "utf8Length"), (0, u "(Ljava/lang/String;Ljava/lang/String;)J"), (0, .string 37), (0, u ""), (3, u "law"), (0, u "(IIIIII)Z")] 4

def k1m0 : Method := { name := "<init>", desc := "()V", sig := { parameters := [], returnType := none }, accessFlags := 2, code := none }
def k1c1 : Code := { maxStack := 3, maxLocals := 4, code := method_2_code, exceptionTable := #[], attributes := #[] }
def k1m1 : Method := { name := "cp", desc := "(II)I", sig := { parameters := [.int, .int], returnType := some .int }, accessFlags := 10, code := some k1c1 }
def k1c2 : Code := { maxStack := 5, maxLocals := 6, code := method_3_code, exceptionTable := #[], attributes := #[] }
def k1m2 : Method := { name := "fill", desc := "([CIII)I", sig := { parameters := [(.array .char), .int, .int, .int], returnType := some .int }, accessFlags := 10, code := some k1c2 }
def k1c3 : Code := { maxStack := 5, maxLocals := 9, code := code, exceptionTable := #[], attributes := #[] }
def k1m3 : Method := { name := "law", desc := "(IIIIII)Z", sig := { parameters := [.int, .int, .int, .int, .int, .int], returnType := some .boolean }, accessFlags := 9, code := some k1c3 }
/-- com/example/half_message_commit/halfmessagecommit/protocol/TextUtf8LengthPinLaw -/
def k1 : Class := { plain "com/example/half_message_commit/halfmessagecommit/protocol/TextUtf8LengthPinLaw" (some 0) with
  accessFlags := 49
  interfaces := #[]
  cf := some (fileOf pool1 13 #[] #[{ accessFlags := 2, nameIndex := 5, descriptorIndex := 6, attributes := #[] }, { accessFlags := 10, nameIndex := 16, descriptorIndex := 17, attributes := #[] }, { accessFlags := 10, nameIndex := 21, descriptorIndex := 22, attributes := #[] }, { accessFlags := 9, nameIndex := 41, descriptorIndex := 42, attributes := #[] }] 49 2 #[] #[])
  fields := #[]
  methods := #[k1m0, k1m1, k1m2, k1m3]
  instanceTypes := #[]
  staticTypes := #[]
  resolved := Array.replicate 47 none
  statics := none }

def pool2 : Array CpInfo := pool [(1, .class_ 2), (0, u "java/io/Serializable"), (0, .class_ 4), (0, u "java/lang/Object")] 2

/-- java/io/Serializable -/
def k2 : Class := { plain "java/io/Serializable" (some 0) with
  accessFlags := 1537
  interfaces := #[]
  cf := some (fileOf pool2 1 #[] #[] 1537 3 #[] #[])
  fields := #[]
  methods := #[]
  instanceTypes := #[]
  staticTypes := #[]
  resolved := Array.replicate 7 none
  statics := none }

def pool3 : Array CpInfo := pool [(1, .class_ 2), (0, u "java/lang/Comparable"), (0, .class_ 4), (0, u "java/lang/Object")] 7

/-- java/lang/Comparable -/
def k3 : Class := { plain "java/lang/Comparable" (some 0) with
  accessFlags := 1537
  interfaces := #[]
  cf := some (fileOf pool3 1 #[] #[] 1537 3 #[] #[])
  fields := #[]
  methods := #[]
  instanceTypes := #[]
  staticTypes := #[]
  resolved := Array.replicate 12 none
  statics := none }

def pool4 : Array CpInfo := pool [(2, .class_ 4), (1, u "java/lang/CharSequence"), (42, .class_ 48), (0, u "java/lang/CharSequence$1CodePointIterator"), (10, .class_ 60), (0, u "java/lang/CharSequence$1CharIterator"), (5, .class_ 67), (0, u "java/lang/Object")] 63

/-- java/lang/CharSequence -/
def k4 : Class := { plain "java/lang/CharSequence" (some 0) with
  accessFlags := 1537
  interfaces := #[]
  cf := some (fileOf pool4 2 #[.nestMembers #[47, 59]] #[] 1537 66 #[] #[])
  fields := #[]
  methods := #[]
  instanceTypes := #[]
  staticTypes := #[]
  resolved := Array.replicate 131 none
  statics := none }

def pool5 : Array CpInfo := pool [(1, .class_ 2), (0, u "java/lang/constant/Constable"), (0, .class_ 4), (0, u "java/lang/Object")] 6

/-- java/lang/constant/Constable -/
def k5 : Class := { plain "java/lang/constant/Constable" (some 0) with
  accessFlags := 1537
  interfaces := #[]
  cf := some (fileOf pool5 1 #[] #[] 1537 3 #[] #[])
  fields := #[]
  methods := #[]
  instanceTypes := #[]
  staticTypes := #[]
  resolved := Array.replicate 11 none
  statics := none }

def pool6 : Array CpInfo := pool [(1, .class_ 2), (0, u "java/lang/constant/ConstantDesc"), (0, .class_ 4), (0, u "java/lang/Object")] 32

/-- java/lang/constant/ConstantDesc -/
def k6 : Class := { plain "java/lang/constant/ConstantDesc" (some 0) with
  accessFlags := 1537
  interfaces := #[]
  cf := some (fileOf pool6 1 #[] #[] 1537 3 #[] #[])
  fields := #[]
  methods := #[]
  instanceTypes := #[]
  staticTypes := #[]
  resolved := Array.replicate 37 none
  statics := none }

def pool7 : Array CpInfo := pool [(1, .methodref 2 3), (0, .class_ 4), (0, .nameAndType 5 6), (0, u "java/lang/Object"), (0, u "<init>"), (0, u "()V"), (2, .fieldref 10 11), (0, .class_ 12), (0, .nameAndType 13 14), (0, u "java/lang/String"), (0, u "value"), (0, u "[B"), (0, .fieldref 10 16), (0, .nameAndType 17 18), (0, u "coder"), (0, u "B"), (2, u "hash"), (0, u "I"), (2, u "hashIsZero"), (0, u "Z"), (0, .methodref 10 28), (0, .nameAndType 5 29), (0, u "([CIILjava/lang/Void;)V"), (8, .fieldref 10 39), (0, .nameAndType 40 26), (0, u "COMPACT_STRINGS"), (1, .class_ 44), (1, u "java/lang/StringUTF16"), (0, u "compress"), (1, .methodref 42 48), (0, .nameAndType 49 50), (0, u "coderFromArrayLen"), (0, u "([BI)B"), (46, u "([BII)I"), (9, .class_ 109), (1, u "java/lang/StringLatin1"), (32, u "()Z"), (34, .methodref 42 178), (0, .nameAndType 45 179), (0, u "([CII)[B"), (154, u "()I"), (0, .methodref 10 336), (0, .nameAndType 17 337), (0, u "()B"), (25, u "([BI)C"), (27, u "(II)V"), (35, u "(I)C"), (64, .methodref 10 493), (0, .nameAndType 494 142), (0, u "isLatin1"), (0, .methodref 107 496), (0, .nameAndType 497 363), (0, u "charAt"), (0, .methodref 42 496), (0, .methodref 10 500), (0, .nameAndType 501 391), (0, u "checkIndex"), (0, .methodref 42 503), (0, .nameAndType 504 97), (0, u "codePointAt"), (2, u "length"), (67, .class_ 576), (0, u "java/lang/CharSequence"), (22, u "CASE_INSENSITIVE_ORDER"), (0, u "Ljava/util/Comparator;"), (164, u "(I)I"), (244, u "([C)V"), (42, .fieldref 1054 1055), (0, .class_ 1056), (0, .nameAndType 1057 1058), (0, u "jdk/internal/util/Preconditions"), (0, u "SIOOBE_FORMATTER"), (0, u "Ljava/util/function/BiFunction;"), (0, .methodref 1054 1060), (0, .nameAndType 501 1061), (0, u "(IILjava/util/function/BiFunction;)I"), (39, u "serialPersistentFields"), (0, u "[Ljava/io/ObjectStreamField;"), (0, .class_ 1104), (0, u "java/lang/String$CaseInsensitiveComparator"), (1, .class_ 1107), (0, u "java/io/Serializable"), (0, .class_ 1109), (0, u "java/lang/Comparable"), (0, .class_ 1111), (0, u "java/lang/constant/Constable"), (0, .class_ 1113), (0, u "java/lang/constant/ConstantDesc"), (2, u "serialVersionUID"), (0, u "J"), (3, u "REPL"), (0, u "C"), (2, u "LATIN1"), (1, u "UTF16")] 323

def k7m0 : Method := { name := "<init>", desc := "()V", sig := { parameters := [], returnType := none }, accessFlags := 1, code := none }
def k7c1 : Code := { maxStack := 5, maxLocals := 2, code := jdk_42_method_3_code, exceptionTable := #[], attributes := #[] }
def k7m1 : Method := { name := "<init>", desc := "([C)V", sig := { parameters := [(.array .char)], returnType := none }, accessFlags := 1, code := some k7c1 }
def k7c2 : Code := { maxStack := 2, maxLocals := 1, code := jdk_42_method_54_code, exceptionTable := #[], attributes := #[] }
def k7m2 : Method := { name := "length", desc := "()I", sig := { parameters := [], returnType := some .int }, accessFlags := 1, code := some k7c2 }
def k7c3 : Code := { maxStack := 2, maxLocals := 2, code := jdk_42_method_56_code, exceptionTable := #[], attributes := #[] }
def k7m3 : Method := { name := "charAt", desc := "(I)C", sig := { parameters := [.int], returnType := some .char }, accessFlags := 1, code := some k7c3 }
def k7c4 : Code := { maxStack := 3, maxLocals := 3, code := jdk_42_method_57_code, exceptionTable := #[], attributes := #[] }
def k7m4 : Method := { name := "codePointAt", desc := "(I)I", sig := { parameters := [.int], returnType := some .int }, accessFlags := 1, code := some k7c4 }
def k7c5 : Code := { maxStack := 4, maxLocals := 6, code := jdk_42_method_149_code, exceptionTable := #[], attributes := #[] }
def k7m5 : Method := { name := "<init>", desc := "([CIILjava/lang/Void;)V", sig := { parameters := [(.array .char), .int, .int, (.object "java/lang/Void")], returnType := none }, accessFlags := 2, code := some k7c5 }
def k7c6 : Code := { maxStack := 1, maxLocals := 1, code := jdk_42_method_152_code, exceptionTable := #[], attributes := #[] }
def k7m6 : Method := { name := "coder", desc := "()B", sig := { parameters := [], returnType := some .byte }, accessFlags := 0, code := some k7c6 }
def k7c7 : Code := { maxStack := 1, maxLocals := 1, code := jdk_42_method_154_code, exceptionTable := #[], attributes := #[] }
def k7m7 : Method := { name := "isLatin1", desc := "()Z", sig := { parameters := [], returnType := some .boolean }, accessFlags := 0, code := some k7c7 }
def k7c8 : Code := { maxStack := 3, maxLocals := 2, code := jdk_42_method_155_code, exceptionTable := #[], attributes := #[] }
def k7m8 : Method := { name := "checkIndex", desc := "(II)V", sig := { parameters := [.int, .int], returnType := none }, accessFlags := 8, code := some k7c8 }
/-- java/lang/String -/
def k7 : Class := { plain "java/lang/String" (some 0) with
  accessFlags := 49
  interfaces := #[2, 3, 4, 5, 6]
  cf := some (fileOf pool7 10 #[.nestMembers #[1103]] #[{ accessFlags := 1, nameIndex := 5, descriptorIndex := 6, attributes := #[] }, { accessFlags := 1, nameIndex := 5, descriptorIndex := 1010, attributes := #[] }, { accessFlags := 1, nameIndex := 507, descriptorIndex := 334, attributes := #[] }, { accessFlags := 1, nameIndex := 497, descriptorIndex := 427, attributes := #[] }, { accessFlags := 1, nameIndex := 504, descriptorIndex := 765, attributes := #[] }, { accessFlags := 2, nameIndex := 5, descriptorIndex := 29, attributes := #[] }, { accessFlags := 0, nameIndex := 17, descriptorIndex := 337, attributes := #[] }, { accessFlags := 0, nameIndex := 494, descriptorIndex := 142, attributes := #[] }, { accessFlags := 8, nameIndex := 501, descriptorIndex := 391, attributes := #[] }] 49 2 #[1106, 1108, 575, 1110, 1112] #[{ accessFlags := 18, nameIndex := 13, descriptorIndex := 14, attributes := #[] }, { accessFlags := 18, nameIndex := 17, descriptorIndex := 18, attributes := #[] }, { accessFlags := 2, nameIndex := 21, descriptorIndex := 22, attributes := #[] }, { accessFlags := 2, nameIndex := 25, descriptorIndex := 26, attributes := #[] }, { accessFlags := 26, nameIndex := 1116, descriptorIndex := 1117, attributes := #[] }, { accessFlags := 24, nameIndex := 40, descriptorIndex := 26, attributes := #[] }, { accessFlags := 26, nameIndex := 1101, descriptorIndex := 1102, attributes := #[] }, { accessFlags := 26, nameIndex := 1121, descriptorIndex := 1122, attributes := #[] }, { accessFlags := 25, nameIndex := 599, descriptorIndex := 600, attributes := #[] }, { accessFlags := 24, nameIndex := 1125, descriptorIndex := 18, attributes := #[] }, { accessFlags := 24, nameIndex := 1127, descriptorIndex := 18, attributes := #[] }])
  fields := #[{ name := "value", type := (.array .byte), accessFlags := 18, slot := 0, constantValue := 0 }, { name := "coder", type := .byte, accessFlags := 18, slot := 1, constantValue := 0 }, { name := "hash", type := .int, accessFlags := 2, slot := 2, constantValue := 0 }, { name := "hashIsZero", type := .boolean, accessFlags := 2, slot := 3, constantValue := 0 }, { name := "serialVersionUID", type := .long, accessFlags := 26, slot := 0, constantValue := 0 }, { name := "COMPACT_STRINGS", type := .boolean, accessFlags := 24, slot := 1, constantValue := 0 }, { name := "serialPersistentFields", type := (.array (.object "java/io/ObjectStreamField")), accessFlags := 26, slot := 2, constantValue := 0 }, { name := "REPL", type := .char, accessFlags := 26, slot := 3, constantValue := 0 }, { name := "CASE_INSENSITIVE_ORDER", type := (.object "java/util/Comparator"), accessFlags := 25, slot := 4, constantValue := 0 }, { name := "LATIN1", type := .byte, accessFlags := 24, slot := 5, constantValue := 0 }, { name := "UTF16", type := .byte, accessFlags := 24, slot := 6, constantValue := 0 }]
  methods := #[k7m0, k7m1, k7m2, k7m3, k7m4, k7m5, k7m6, k7m7, k7m8]
  instanceTypes := #[(.array .byte), .byte, .int, .boolean]
  staticTypes := #[.long, .boolean, (.array (.object "java/io/ObjectStreamField")), .char, (.object "java/util/Comparator"), .byte, .byte]
  resolved := Array.replicate 1451 none
  statics := some 0 }

def pool8 : Array CpInfo := pool [(3, .class_ 4), (0, u "java/lang/String"), (1, .class_ 8), (1, u "java/lang/Object"), (0, u "<init>"), (0, u "()V"), (0, .methodref 12 13), (0, .class_ 14), (0, .nameAndType 15 16), (0, u "java/lang/StringUTF16"), (0, u "newBytesLength"), (0, u "(I)I"), (3, .integer 1073741823), (23, .fieldref 12 45), (0, .nameAndType 46 47), (0, u "$assertionsDisabled"), (0, u "Z"), (0, .methodref 12 49), (0, .nameAndType 50 51), (0, u "length"), (0, u "([B)I"), (7, .fieldref 12 60), (0, .nameAndType 61 62), (0, u "HI_BYTE_SHIFT"), (0, u "I"), (0, .fieldref 12 64), (0, .nameAndType 65 62), (0, u "LO_BYTE_SHIFT"), (1, .methodref 12 68), (0, .nameAndType 69 70), (0, u "checkIndex"), (0, u "(I[B)V"), (0, .methodref 12 72), (0, .nameAndType 73 74), (0, u "getChar"), (0, u "([BI)C"), (0, .methodref 76 77), (0, .class_ 78), (0, .nameAndType 79 80), (0, u "java/lang/Character"), (0, u "isHighSurrogate"), (0, u "(C)Z"), (0, .methodref 76 82), (0, .nameAndType 83 80), (0, u "isLowSurrogate"), (0, .methodref 76 85), (0, .nameAndType 86 87), (0, u "toCodePoint"), (0, u "(CC)I"), (0, .methodref 12 89), (0, .nameAndType 90 91), (0, u "codePointAt"), (0, u "([BIIZ)I"), (15, .methodref 12 108), (0, .nameAndType 109 110), (0, u "newBytesFor"), (0, u "(I)[B"), (0, .methodref 12 112), (0, .nameAndType 113 114), (0, u "putChar"), (0, u "([BII)V"), (0, .methodref 12 116), (0, .nameAndType 117 118), (0, u "compress"), (0, u "([CI[BII)I"), (0, .methodref 12 120), (0, .nameAndType 121 122), (0, u "toBytes"), (0, u "([CII)[B"), (127, u "([BII)I"), (10, u "coderFromArrayLen"), (0, u "([BI)B"), (106, .class_ 371), (1, u "java/lang/StringUTF16$LinesSpliterator"), (20, u "charAt"), (21, .methodref 3 415), (0, .nameAndType 69 416), (0, u "(II)V"), (13, u "MAX_LENGTH"), (196, .class_ 628), (0, u "java/lang/StringUTF16$CodePointsSpliterator"), (0, .class_ 630), (0, u "java/lang/StringUTF16$CharsSpliterator")] 4

def k8m0 : Method := { name := "<init>", desc := "()V", sig := { parameters := [], returnType := none }, accessFlags := 0, code := none }
def k8c1 : Code := { maxStack := 1, maxLocals := 1, code := jdk_52_method_2_code, exceptionTable := #[], attributes := #[] }
def k8m1 : Method := { name := "newBytesFor", desc := "(I)[B", sig := { parameters := [.int], returnType := some (.array .byte) }, accessFlags := 9, code := some k8c1 }
def k8c2 : Code := { maxStack := 4, maxLocals := 1, code := jdk_52_method_3_code, exceptionTable := #[], attributes := #[] }
def k8m2 : Method := { name := "newBytesLength", desc := "(I)I", sig := { parameters := [.int], returnType := some .int }, accessFlags := 9, code := some k8c2 }
def k8c3 : Code := { maxStack := 4, maxLocals := 3, code := jdk_52_method_4_code, exceptionTable := #[], attributes := #[] }
def k8m3 : Method := { name := "putChar", desc := "([BII)V", sig := { parameters := [(.array .byte), .int, .int], returnType := none }, accessFlags := 8, code := some k8c3 }
def k8c4 : Code := { maxStack := 3, maxLocals := 2, code := jdk_52_method_5_code, exceptionTable := #[], attributes := #[] }
def k8m4 : Method := { name := "getChar", desc := "([BI)C", sig := { parameters := [(.array .byte), .int], returnType := some .char }, accessFlags := 8, code := some k8c4 }
def k8c5 : Code := { maxStack := 2, maxLocals := 1, code := jdk_52_method_6_code, exceptionTable := #[], attributes := #[] }
def k8m5 : Method := { name := "length", desc := "([B)I", sig := { parameters := [(.array .byte)], returnType := some .int }, accessFlags := 9, code := some k8c5 }
def k8c6 : Code := { maxStack := 2, maxLocals := 6, code := jdk_52_method_7_code, exceptionTable := #[], attributes := #[] }
def k8m6 : Method := { name := "codePointAt", desc := "([BIIZ)I", sig := { parameters := [(.array .byte), .int, .int, .boolean], returnType := some .int }, accessFlags := 10, code := some k8c6 }
def k8c7 : Code := { maxStack := 4, maxLocals := 3, code := jdk_52_method_8_code, exceptionTable := #[], attributes := #[] }
def k8m7 : Method := { name := "codePointAt", desc := "([BII)I", sig := { parameters := [(.array .byte), .int, .int], returnType := some .int }, accessFlags := 9, code := some k8c7 }
def k8c8 : Code := { maxStack := 4, maxLocals := 5, code := jdk_52_method_14_code, exceptionTable := #[], attributes := #[] }
def k8m8 : Method := { name := "toBytes", desc := "([CII)[B", sig := { parameters := [(.array .char), .int, .int], returnType := some (.array .byte) }, accessFlags := 9, code := some k8c8 }
def k8c9 : Code := { maxStack := 2, maxLocals := 2, code := jdk_52_method_15_code, exceptionTable := #[], attributes := #[] }
def k8m9 : Method := { name := "coderFromArrayLen", desc := "([BI)B", sig := { parameters := [(.array .byte), .int], returnType := some .byte }, accessFlags := 8, code := some k8c9 }
def k8c10 : Code := { maxStack := 5, maxLocals := 6, code := jdk_52_method_16_code, exceptionTable := #[], attributes := #[] }
def k8m10 : Method := { name := "compress", desc := "([CII)[B", sig := { parameters := [(.array .char), .int, .int], returnType := some (.array .byte) }, accessFlags := 9, code := some k8c10 }
def k8c11 : Code := { maxStack := 3, maxLocals := 7, code := jdk_52_method_21_code, exceptionTable := #[], attributes := #[] }
def k8m11 : Method := { name := "compress", desc := "([CI[BII)I", sig := { parameters := [(.array .char), .int, (.array .byte), .int, .int], returnType := some .int }, accessFlags := 9, code := some k8c11 }
def k8c12 : Code := { maxStack := 2, maxLocals := 2, code := jdk_52_method_83_code, exceptionTable := #[], attributes := #[] }
def k8m12 : Method := { name := "charAt", desc := "([BI)C", sig := { parameters := [(.array .byte), .int], returnType := some .char }, accessFlags := 9, code := some k8c12 }
def k8c13 : Code := { maxStack := 2, maxLocals := 2, code := jdk_52_method_91_code, exceptionTable := #[], attributes := #[] }
def k8m13 : Method := { name := "checkIndex", desc := "(I[B)V", sig := { parameters := [.int, (.array .byte)], returnType := none }, accessFlags := 9, code := some k8c13 }
/-- java/lang/StringUTF16 -/
def k8 : Class := { plain "java/lang/StringUTF16" (some 0) with
  accessFlags := 48
  interfaces := #[]
  cf := some (fileOf pool8 12 #[.nestMembers #[627, 629, 369]] #[{ accessFlags := 0, nameIndex := 9, descriptorIndex := 10, attributes := #[] }, { accessFlags := 9, nameIndex := 109, descriptorIndex := 110, attributes := #[] }, { accessFlags := 9, nameIndex := 15, descriptorIndex := 16, attributes := #[] }, { accessFlags := 8, nameIndex := 113, descriptorIndex := 114, attributes := #[] }, { accessFlags := 8, nameIndex := 73, descriptorIndex := 74, attributes := #[] }, { accessFlags := 9, nameIndex := 50, descriptorIndex := 51, attributes := #[] }, { accessFlags := 10, nameIndex := 90, descriptorIndex := 91, attributes := #[] }, { accessFlags := 9, nameIndex := 90, descriptorIndex := 250, attributes := #[] }, { accessFlags := 9, nameIndex := 121, descriptorIndex := 122, attributes := #[] }, { accessFlags := 8, nameIndex := 261, descriptorIndex := 262, attributes := #[] }, { accessFlags := 9, nameIndex := 117, descriptorIndex := 122, attributes := #[] }, { accessFlags := 9, nameIndex := 117, descriptorIndex := 118, attributes := #[] }, { accessFlags := 9, nameIndex := 392, descriptorIndex := 74, attributes := #[] }, { accessFlags := 9, nameIndex := 69, descriptorIndex := 70, attributes := #[] }] 48 6 #[] #[{ accessFlags := 26, nameIndex := 61, descriptorIndex := 62, attributes := #[] }, { accessFlags := 26, nameIndex := 65, descriptorIndex := 62, attributes := #[] }, { accessFlags := 24, nameIndex := 430, descriptorIndex := 62, attributes := #[] }, { accessFlags := 4120, nameIndex := 46, descriptorIndex := 47, attributes := #[] }])
  fields := #[{ name := "HI_BYTE_SHIFT", type := .int, accessFlags := 26, slot := 0, constantValue := 0 }, { name := "LO_BYTE_SHIFT", type := .int, accessFlags := 26, slot := 1, constantValue := 0 }, { name := "MAX_LENGTH", type := .int, accessFlags := 24, slot := 2, constantValue := 0 }, { name := "$assertionsDisabled", type := .boolean, accessFlags := 4120, slot := 3, constantValue := 0 }]
  methods := #[k8m0, k8m1, k8m2, k8m3, k8m4, k8m5, k8m6, k8m7, k8m8, k8m9, k8m10, k8m11, k8m12, k8m13]
  instanceTypes := #[]
  staticTypes := #[.int, .int, .int, .boolean]
  resolved := Array.replicate 635 none
  statics := some 1 }

def pool9 : Array CpInfo := pool [(2, .class_ 4), (1, u "java/lang/Object"), (0, u "<init>"), (0, u "()V"), (0, .class_ 8), (0, u "java/lang/String"), (9, .class_ 19), (0, u "com/example/half_message_commit/halfmessagecommit/protocol/Text"), (4, u "(I)I"), (52, .methodref 7 78), (0, .nameAndType 79 80), (0, u "length"), (0, u "()I"), (0, .methodref 18 82), (0, .nameAndType 83 84), (0, u "requireWhole"), (0, u "(Ljava/lang/String;Ljava/lang/String;I)V"), (0, .methodref 7 86), (0, .nameAndType 87 24), (0, u "codePointAt"), (0, .methodref 89 90), (0, .class_ 91), (0, .nameAndType 92 24), (0, u "java/lang/Character"), (0, u "charCount"), (0, .long 2), (1, .integer 65536), (0, .long 3), (1, .long 4), (1, .methodref 7 101), (0, .nameAndType 102 103), (0, u "charAt"), (0, u "(I)C"), (0, .methodref 89 105), (0, .nameAndType 106 107), (0, u "isSurrogate"), (0, u "(C)Z"), (6, u "REPLACEMENT_CHARACTER"), (0, u "C"), (7, u "utf8Length"), (0, u "(Ljava/lang/String;Ljava/lang/String;)J")] 19

def k9m0 : Method := { name := "<init>", desc := "()V", sig := { parameters := [], returnType := none }, accessFlags := 2, code := none }
def k9c1 : Code := { maxStack := 4, maxLocals := 6, code := prog_26_method_5_code, exceptionTable := #[], attributes := #[] }
def k9m1 : Method := { name := "utf8Length", desc := "(Ljava/lang/String;Ljava/lang/String;)J", sig := { parameters := [(.object "java/lang/String"), (.object "java/lang/String")], returnType := some .long }, accessFlags := 8, code := some k9c1 }
def k9c2 : Code := { maxStack := 5, maxLocals := 3, code := prog_26_method_6_code, exceptionTable := #[], attributes := #[] }
def k9m2 : Method := { name := "requireWhole", desc := "(Ljava/lang/String;Ljava/lang/String;I)V", sig := { parameters := [(.object "java/lang/String"), (.object "java/lang/String"), .int], returnType := none }, accessFlags := 10, code := some k9c2 }
/-- com/example/half_message_commit/halfmessagecommit/protocol/Text -/
def k9 : Class := { plain "com/example/half_message_commit/halfmessagecommit/protocol/Text" (some 0) with
  accessFlags := 49
  interfaces := #[]
  cf := some (fileOf pool9 18 #[] #[{ accessFlags := 2, nameIndex := 5, descriptorIndex := 6, attributes := #[] }, { accessFlags := 8, nameIndex := 123, descriptorIndex := 124, attributes := #[] }, { accessFlags := 10, nameIndex := 83, descriptorIndex := 84, attributes := #[] }] 49 2 #[] #[{ accessFlags := 26, nameIndex := 114, descriptorIndex := 115, attributes := #[] }])
  fields := #[{ name := "REPLACEMENT_CHARACTER", type := .char, accessFlags := 26, slot := 0, constantValue := 0 }]
  methods := #[k9m0, k9m1, k9m2]
  instanceTypes := #[]
  staticTypes := #[.char]
  resolved := Array.replicate 144 none
  statics := none }

def pool10 : Array CpInfo := pool [(2, .class_ 4), (1, u "java/lang/Object"), (0, u "<init>"), (0, u "()V"), (17, .class_ 26), (1, u "jdk/internal/util/Preconditions"), (6, u "checkIndex"), (21, .class_ 56), (0, u "jdk/internal/util/Preconditions$4"), (57, .class_ 115), (0, u "jdk/internal/util/Preconditions$1"), (7, u "SIOOBE_FORMATTER"), (0, u "Ljava/util/function/BiFunction;"), (0, .class_ 126), (0, u "jdk/internal/util/Preconditions$2"), (3, u "AIOOBE_FORMATTER"), (0, .class_ 132), (0, u "jdk/internal/util/Preconditions$3"), (3, u "IOOBE_FORMATTER"), (41, u "(IILjava/util/function/BiFunction;)I")] 15

def k10m0 : Method := { name := "<init>", desc := "()V", sig := { parameters := [], returnType := none }, accessFlags := 1, code := none }
def k10c1 : Code := { maxStack := 3, maxLocals := 3, code := jdk_41_method_11_code, exceptionTable := #[], attributes := #[] }
def k10m1 : Method := { name := "checkIndex", desc := "(IILjava/util/function/BiFunction;)I", sig := { parameters := [.int, .int, (.object "java/util/function/BiFunction")], returnType := some .int }, accessFlags := 9, code := some k10c1 }
/-- jdk/internal/util/Preconditions -/
def k10 : Class := { plain "jdk/internal/util/Preconditions" (some 0) with
  accessFlags := 33
  interfaces := #[]
  cf := some (fileOf pool10 24 #[.nestMembers #[55, 131, 125, 114]] #[{ accessFlags := 1, nameIndex := 5, descriptorIndex := 6, attributes := #[] }, { accessFlags := 9, nameIndex := 33, descriptorIndex := 178, attributes := #[] }] 33 2 #[] #[{ accessFlags := 25, nameIndex := 123, descriptorIndex := 124, attributes := #[] }, { accessFlags := 25, nameIndex := 130, descriptorIndex := 124, attributes := #[] }, { accessFlags := 25, nameIndex := 136, descriptorIndex := 124, attributes := #[] }])
  fields := #[{ name := "SIOOBE_FORMATTER", type := (.object "java/util/function/BiFunction"), accessFlags := 25, slot := 0, constantValue := 0 }, { name := "AIOOBE_FORMATTER", type := (.object "java/util/function/BiFunction"), accessFlags := 25, slot := 1, constantValue := 0 }, { name := "IOOBE_FORMATTER", type := (.object "java/util/function/BiFunction"), accessFlags := 25, slot := 2, constantValue := 0 }]
  methods := #[k10m0, k10m1]
  instanceTypes := #[]
  staticTypes := #[(.object "java/util/function/BiFunction"), (.object "java/util/function/BiFunction"), (.object "java/util/function/BiFunction")]
  resolved := Array.replicate 194 none
  statics := some 2 }

def pool11 : Array CpInfo := pool [(1, .class_ 2), (0, u "java/lang/Character"), (18, u "value"), (0, u "C"), (19, .class_ 44), (1, u "java/lang/Object"), (3, .class_ 50), (1, u "java/lang/Character$CharacterCache"), (22, .integer 65536), (1, .integer 55296), (0, .integer 56320), (0, .integer 57344), (2, u "isHighSurrogate"), (0, u "(C)Z"), (2, u "isLowSurrogate"), (0, .integer 4238353408), (12, u "toCodePoint"), (0, u "(CC)I"), (74, u "(I)I"), (109, u "$assertionsDisabled"), (0, u "Z"), (21, .class_ 309), (1, u "java/lang/Character$UnicodeBlock"), (73, u "TYPE"), (0, u "Ljava/lang/Class;"), (0, .class_ 386), (0, u "java/io/Serializable"), (0, .class_ 388), (0, u "java/lang/Comparable"), (0, .class_ 390), (0, u "java/lang/constant/Constable"), (0, u "MIN_RADIX"), (0, u "I"), (2, u "MAX_RADIX"), (1, u "MIN_VALUE"), (1, u "MAX_VALUE"), (3, u "UNASSIGNED"), (0, u "B"), (0, u "UPPERCASE_LETTER"), (1, u "LOWERCASE_LETTER"), (0, u "TITLECASE_LETTER"), (1, u "MODIFIER_LETTER"), (1, u "OTHER_LETTER"), (1, u "NON_SPACING_MARK"), (1, u "ENCLOSING_MARK"), (1, u "COMBINING_SPACING_MARK"), (1, u "DECIMAL_DIGIT_NUMBER"), (1, u "LETTER_NUMBER"), (1, u "OTHER_NUMBER"), (1, u "SPACE_SEPARATOR"), (1, u "LINE_SEPARATOR"), (1, u "PARAGRAPH_SEPARATOR"), (1, u "CONTROL"), (1, u "FORMAT"), (1, u "PRIVATE_USE"), (1, u "SURROGATE"), (1, u "DASH_PUNCTUATION"), (1, u "START_PUNCTUATION"), (1, u "END_PUNCTUATION"), (1, u "CONNECTOR_PUNCTUATION"), (1, u "OTHER_PUNCTUATION"), (1, u "MATH_SYMBOL"), (1, u "CURRENCY_SYMBOL"), (1, u "MODIFIER_SYMBOL"), (1, u "OTHER_SYMBOL"), (1, u "INITIAL_QUOTE_PUNCTUATION"), (1, u "FINAL_QUOTE_PUNCTUATION"), (1, u "ERROR"), (1, u "DIRECTIONALITY_UNDEFINED"), (0, u "DIRECTIONALITY_LEFT_TO_RIGHT"), (0, u "DIRECTIONALITY_RIGHT_TO_LEFT"), (0, u "DIRECTIONALITY_RIGHT_TO_LEFT_ARABIC"), (0, u "DIRECTIONALITY_EUROPEAN_NUMBER"), (0, u "DIRECTIONALITY_EUROPEAN_NUMBER_SEPARATOR"), (0, u "DIRECTIONALITY_EUROPEAN_NUMBER_TERMINATOR"), (0, u "DIRECTIONALITY_ARABIC_NUMBER"), (0, u "DIRECTIONALITY_COMMON_NUMBER_SEPARATOR"), (0, u "DIRECTIONALITY_NONSPACING_MARK"), (0, u "DIRECTIONALITY_BOUNDARY_NEUTRAL"), (0, u "DIRECTIONALITY_PARAGRAPH_SEPARATOR"), (0, u "DIRECTIONALITY_SEGMENT_SEPARATOR"), (0, u "DIRECTIONALITY_WHITESPACE"), (0, u "DIRECTIONALITY_OTHER_NEUTRALS"), (0, u "DIRECTIONALITY_LEFT_TO_RIGHT_EMBEDDING"), (0, u "DIRECTIONALITY_LEFT_TO_RIGHT_OVERRIDE"), (0, u "DIRECTIONALITY_RIGHT_TO_LEFT_EMBEDDING"), (0, u "DIRECTIONALITY_RIGHT_TO_LEFT_OVERRIDE"), (1, u "DIRECTIONALITY_POP_DIRECTIONAL_FORMAT"), (0, u "DIRECTIONALITY_LEFT_TO_RIGHT_ISOLATE"), (0, u "DIRECTIONALITY_RIGHT_TO_LEFT_ISOLATE"), (0, u "DIRECTIONALITY_FIRST_STRONG_ISOLATE"), (0, u "DIRECTIONALITY_POP_DIRECTIONAL_ISOLATE"), (0, u "MIN_HIGH_SURROGATE"), (0, u "MAX_HIGH_SURROGATE"), (1, u "MIN_LOW_SURROGATE"), (0, u "MAX_LOW_SURROGATE"), (1, u "MIN_SURROGATE"), (0, u "MAX_SURROGATE"), (0, u "MIN_SUPPLEMENTARY_CODE_POINT"), (0, u "MIN_CODE_POINT"), (0, u "MAX_CODE_POINT"), (1, u "serialVersionUID"), (0, u "J"), (2, u "SIZE"), (0, u "BYTES"), (24, u "isSurrogate"), (4, u "charCount"), (58, .class_ 596), (0, u "java/lang/Character$UnicodeScript"), (0, .class_ 598), (0, u "java/lang/Character$Subset")] 5

def k11c0 : Code := { maxStack := 2, maxLocals := 1, code := jdk_89_method_14_code, exceptionTable := #[], attributes := #[] }
def k11m0 : Method := { name := "isHighSurrogate", desc := "(C)Z", sig := { parameters := [.char], returnType := some .boolean }, accessFlags := 9, code := some k11c0 }
def k11c1 : Code := { maxStack := 2, maxLocals := 1, code := jdk_89_method_15_code, exceptionTable := #[], attributes := #[] }
def k11m1 : Method := { name := "isLowSurrogate", desc := "(C)Z", sig := { parameters := [.char], returnType := some .boolean }, accessFlags := 9, code := some k11c1 }
def k11c2 : Code := { maxStack := 2, maxLocals := 1, code := jdk_89_method_16_code, exceptionTable := #[], attributes := #[] }
def k11m2 : Method := { name := "isSurrogate", desc := "(C)Z", sig := { parameters := [.char], returnType := some .boolean }, accessFlags := 9, code := some k11c2 }
def k11c3 : Code := { maxStack := 2, maxLocals := 1, code := jdk_89_method_18_code, exceptionTable := #[], attributes := #[] }
def k11m3 : Method := { name := "charCount", desc := "(I)I", sig := { parameters := [.int], returnType := some .int }, accessFlags := 9, code := some k11c3 }
def k11c4 : Code := { maxStack := 2, maxLocals := 2, code := jdk_89_method_19_code, exceptionTable := #[], attributes := #[] }
def k11m4 : Method := { name := "toCodePoint", desc := "(CC)I", sig := { parameters := [.char, .char], returnType := some .int }, accessFlags := 9, code := some k11c4 }
/-- java/lang/Character -/
def k11 : Class := { plain "java/lang/Character" (some 0) with
  accessFlags := 49
  interfaces := #[2, 3, 5]
  cf := some (fileOf pool11 1 #[.nestMembers #[48, 595, 307, 597]] #[{ accessFlags := 9, nameIndex := 80, descriptorIndex := 81, attributes := #[] }, { accessFlags := 9, nameIndex := 84, descriptorIndex := 81, attributes := #[] }, { accessFlags := 9, nameIndex := 531, descriptorIndex := 81, attributes := #[] }, { accessFlags := 9, nameIndex := 536, descriptorIndex := 174, attributes := #[] }, { accessFlags := 9, nameIndex := 98, descriptorIndex := 99, attributes := #[] }] 49 42 #[385, 387, 389] #[{ accessFlags := 25, nameIndex := 391, descriptorIndex := 392, attributes := #[] }, { accessFlags := 25, nameIndex := 395, descriptorIndex := 392, attributes := #[] }, { accessFlags := 25, nameIndex := 397, descriptorIndex := 22, attributes := #[] }, { accessFlags := 25, nameIndex := 399, descriptorIndex := 22, attributes := #[] }, { accessFlags := 25, nameIndex := 383, descriptorIndex := 384, attributes := #[] }, { accessFlags := 25, nameIndex := 403, descriptorIndex := 404, attributes := #[] }, { accessFlags := 25, nameIndex := 405, descriptorIndex := 404, attributes := #[] }, { accessFlags := 25, nameIndex := 407, descriptorIndex := 404, attributes := #[] }, { accessFlags := 25, nameIndex := 408, descriptorIndex := 404, attributes := #[] }, { accessFlags := 25, nameIndex := 410, descriptorIndex := 404, attributes := #[] }, { accessFlags := 25, nameIndex := 412, descriptorIndex := 404, attributes := #[] }, { accessFlags := 25, nameIndex := 414, descriptorIndex := 404, attributes := #[] }, { accessFlags := 25, nameIndex := 416, descriptorIndex := 404, attributes := #[] }, { accessFlags := 25, nameIndex := 418, descriptorIndex := 404, attributes := #[] }, { accessFlags := 25, nameIndex := 420, descriptorIndex := 404, attributes := #[] }, { accessFlags := 25, nameIndex := 422, descriptorIndex := 404, attributes := #[] }, { accessFlags := 25, nameIndex := 424, descriptorIndex := 404, attributes := #[] }, { accessFlags := 25, nameIndex := 426, descriptorIndex := 404, attributes := #[] }, { accessFlags := 25, nameIndex := 428, descriptorIndex := 404, attributes := #[] }, { accessFlags := 25, nameIndex := 430, descriptorIndex := 404, attributes := #[] }, { accessFlags := 25, nameIndex := 432, descriptorIndex := 404, attributes := #[] }, { accessFlags := 25, nameIndex := 434, descriptorIndex := 404, attributes := #[] }, { accessFlags := 25, nameIndex := 436, descriptorIndex := 404, attributes := #[] }, { accessFlags := 25, nameIndex := 438, descriptorIndex := 404, attributes := #[] }, { accessFlags := 25, nameIndex := 440, descriptorIndex := 404, attributes := #[] }, { accessFlags := 25, nameIndex := 442, descriptorIndex := 404, attributes := #[] }, { accessFlags := 25, nameIndex := 444, descriptorIndex := 404, attributes := #[] }, { accessFlags := 25, nameIndex := 446, descriptorIndex := 404, attributes := #[] }, { accessFlags := 25, nameIndex := 448, descriptorIndex := 404, attributes := #[] }, { accessFlags := 25, nameIndex := 450, descriptorIndex := 404, attributes := #[] }, { accessFlags := 25, nameIndex := 452, descriptorIndex := 404, attributes := #[] }, { accessFlags := 25, nameIndex := 454, descriptorIndex := 404, attributes := #[] }, { accessFlags := 25, nameIndex := 456, descriptorIndex := 404, attributes := #[] }, { accessFlags := 25, nameIndex := 458, descriptorIndex := 404, attributes := #[] }, { accessFlags := 25, nameIndex := 460, descriptorIndex := 404, attributes := #[] }, { accessFlags := 24, nameIndex := 462, descriptorIndex := 392, attributes := #[] }, { accessFlags := 25, nameIndex := 464, descriptorIndex := 404, attributes := #[] }, { accessFlags := 25, nameIndex := 465, descriptorIndex := 404, attributes := #[] }, { accessFlags := 25, nameIndex := 466, descriptorIndex := 404, attributes := #[] }, { accessFlags := 25, nameIndex := 467, descriptorIndex := 404, attributes := #[] }, { accessFlags := 25, nameIndex := 468, descriptorIndex := 404, attributes := #[] }, { accessFlags := 25, nameIndex := 469, descriptorIndex := 404, attributes := #[] }, { accessFlags := 25, nameIndex := 470, descriptorIndex := 404, attributes := #[] }, { accessFlags := 25, nameIndex := 471, descriptorIndex := 404, attributes := #[] }, { accessFlags := 25, nameIndex := 472, descriptorIndex := 404, attributes := #[] }, { accessFlags := 25, nameIndex := 473, descriptorIndex := 404, attributes := #[] }, { accessFlags := 25, nameIndex := 474, descriptorIndex := 404, attributes := #[] }, { accessFlags := 25, nameIndex := 475, descriptorIndex := 404, attributes := #[] }, { accessFlags := 25, nameIndex := 476, descriptorIndex := 404, attributes := #[] }, { accessFlags := 25, nameIndex := 477, descriptorIndex := 404, attributes := #[] }, { accessFlags := 25, nameIndex := 478, descriptorIndex := 404, attributes := #[] }, { accessFlags := 25, nameIndex := 479, descriptorIndex := 404, attributes := #[] }, { accessFlags := 25, nameIndex := 480, descriptorIndex := 404, attributes := #[] }, { accessFlags := 25, nameIndex := 481, descriptorIndex := 404, attributes := #[] }, { accessFlags := 25, nameIndex := 482, descriptorIndex := 404, attributes := #[] }, { accessFlags := 25, nameIndex := 484, descriptorIndex := 404, attributes := #[] }, { accessFlags := 25, nameIndex := 485, descriptorIndex := 404, attributes := #[] }, { accessFlags := 25, nameIndex := 486, descriptorIndex := 404, attributes := #[] }, { accessFlags := 25, nameIndex := 487, descriptorIndex := 404, attributes := #[] }, { accessFlags := 25, nameIndex := 488, descriptorIndex := 404, attributes := #[] }, { accessFlags := 25, nameIndex := 489, descriptorIndex := 22, attributes := #[] }, { accessFlags := 25, nameIndex := 490, descriptorIndex := 22, attributes := #[] }, { accessFlags := 25, nameIndex := 492, descriptorIndex := 22, attributes := #[] }, { accessFlags := 25, nameIndex := 493, descriptorIndex := 22, attributes := #[] }, { accessFlags := 25, nameIndex := 495, descriptorIndex := 22, attributes := #[] }, { accessFlags := 25, nameIndex := 496, descriptorIndex := 22, attributes := #[] }, { accessFlags := 25, nameIndex := 497, descriptorIndex := 392, attributes := #[] }, { accessFlags := 25, nameIndex := 498, descriptorIndex := 392, attributes := #[] }, { accessFlags := 25, nameIndex := 499, descriptorIndex := 392, attributes := #[] }, { accessFlags := 18, nameIndex := 21, descriptorIndex := 22, attributes := #[] }, { accessFlags := 26, nameIndex := 501, descriptorIndex := 502, attributes := #[] }, { accessFlags := 25, nameIndex := 505, descriptorIndex := 392, attributes := #[] }, { accessFlags := 25, nameIndex := 506, descriptorIndex := 392, attributes := #[] }, { accessFlags := 4120, nameIndex := 284, descriptorIndex := 285, attributes := #[] }])
  fields := #[{ name := "MIN_RADIX", type := .int, accessFlags := 25, slot := 0, constantValue := 0 }, { name := "MAX_RADIX", type := .int, accessFlags := 25, slot := 1, constantValue := 0 }, { name := "MIN_VALUE", type := .char, accessFlags := 25, slot := 2, constantValue := 0 }, { name := "MAX_VALUE", type := .char, accessFlags := 25, slot := 3, constantValue := 0 }, { name := "TYPE", type := (.object "java/lang/Class"), accessFlags := 25, slot := 4, constantValue := 0 }, { name := "UNASSIGNED", type := .byte, accessFlags := 25, slot := 5, constantValue := 0 }, { name := "UPPERCASE_LETTER", type := .byte, accessFlags := 25, slot := 6, constantValue := 0 }, { name := "LOWERCASE_LETTER", type := .byte, accessFlags := 25, slot := 7, constantValue := 0 }, { name := "TITLECASE_LETTER", type := .byte, accessFlags := 25, slot := 8, constantValue := 0 }, { name := "MODIFIER_LETTER", type := .byte, accessFlags := 25, slot := 9, constantValue := 0 }, { name := "OTHER_LETTER", type := .byte, accessFlags := 25, slot := 10, constantValue := 0 }, { name := "NON_SPACING_MARK", type := .byte, accessFlags := 25, slot := 11, constantValue := 0 }, { name := "ENCLOSING_MARK", type := .byte, accessFlags := 25, slot := 12, constantValue := 0 }, { name := "COMBINING_SPACING_MARK", type := .byte, accessFlags := 25, slot := 13, constantValue := 0 }, { name := "DECIMAL_DIGIT_NUMBER", type := .byte, accessFlags := 25, slot := 14, constantValue := 0 }, { name := "LETTER_NUMBER", type := .byte, accessFlags := 25, slot := 15, constantValue := 0 }, { name := "OTHER_NUMBER", type := .byte, accessFlags := 25, slot := 16, constantValue := 0 }, { name := "SPACE_SEPARATOR", type := .byte, accessFlags := 25, slot := 17, constantValue := 0 }, { name := "LINE_SEPARATOR", type := .byte, accessFlags := 25, slot := 18, constantValue := 0 }, { name := "PARAGRAPH_SEPARATOR", type := .byte, accessFlags := 25, slot := 19, constantValue := 0 }, { name := "CONTROL", type := .byte, accessFlags := 25, slot := 20, constantValue := 0 }, { name := "FORMAT", type := .byte, accessFlags := 25, slot := 21, constantValue := 0 }, { name := "PRIVATE_USE", type := .byte, accessFlags := 25, slot := 22, constantValue := 0 }, { name := "SURROGATE", type := .byte, accessFlags := 25, slot := 23, constantValue := 0 }, { name := "DASH_PUNCTUATION", type := .byte, accessFlags := 25, slot := 24, constantValue := 0 }, { name := "START_PUNCTUATION", type := .byte, accessFlags := 25, slot := 25, constantValue := 0 }, { name := "END_PUNCTUATION", type := .byte, accessFlags := 25, slot := 26, constantValue := 0 }, { name := "CONNECTOR_PUNCTUATION", type := .byte, accessFlags := 25, slot := 27, constantValue := 0 }, { name := "OTHER_PUNCTUATION", type := .byte, accessFlags := 25, slot := 28, constantValue := 0 }, { name := "MATH_SYMBOL", type := .byte, accessFlags := 25, slot := 29, constantValue := 0 }, { name := "CURRENCY_SYMBOL", type := .byte, accessFlags := 25, slot := 30, constantValue := 0 }, { name := "MODIFIER_SYMBOL", type := .byte, accessFlags := 25, slot := 31, constantValue := 0 }, { name := "OTHER_SYMBOL", type := .byte, accessFlags := 25, slot := 32, constantValue := 0 }, { name := "INITIAL_QUOTE_PUNCTUATION", type := .byte, accessFlags := 25, slot := 33, constantValue := 0 }, { name := "FINAL_QUOTE_PUNCTUATION", type := .byte, accessFlags := 25, slot := 34, constantValue := 0 }, { name := "ERROR", type := .int, accessFlags := 24, slot := 35, constantValue := 0 }, { name := "DIRECTIONALITY_UNDEFINED", type := .byte, accessFlags := 25, slot := 36, constantValue := 0 }, { name := "DIRECTIONALITY_LEFT_TO_RIGHT", type := .byte, accessFlags := 25, slot := 37, constantValue := 0 }, { name := "DIRECTIONALITY_RIGHT_TO_LEFT", type := .byte, accessFlags := 25, slot := 38, constantValue := 0 }, { name := "DIRECTIONALITY_RIGHT_TO_LEFT_ARABIC", type := .byte, accessFlags := 25, slot := 39, constantValue := 0 }, { name := "DIRECTIONALITY_EUROPEAN_NUMBER", type := .byte, accessFlags := 25, slot := 40, constantValue := 0 }, { name := "DIRECTIONALITY_EUROPEAN_NUMBER_SEPARATOR", type := .byte, accessFlags := 25, slot := 41, constantValue := 0 }, { name := "DIRECTIONALITY_EUROPEAN_NUMBER_TERMINATOR", type := .byte, accessFlags := 25, slot := 42, constantValue := 0 }, { name := "DIRECTIONALITY_ARABIC_NUMBER", type := .byte, accessFlags := 25, slot := 43, constantValue := 0 }, { name := "DIRECTIONALITY_COMMON_NUMBER_SEPARATOR", type := .byte, accessFlags := 25, slot := 44, constantValue := 0 }, { name := "DIRECTIONALITY_NONSPACING_MARK", type := .byte, accessFlags := 25, slot := 45, constantValue := 0 }, { name := "DIRECTIONALITY_BOUNDARY_NEUTRAL", type := .byte, accessFlags := 25, slot := 46, constantValue := 0 }, { name := "DIRECTIONALITY_PARAGRAPH_SEPARATOR", type := .byte, accessFlags := 25, slot := 47, constantValue := 0 }, { name := "DIRECTIONALITY_SEGMENT_SEPARATOR", type := .byte, accessFlags := 25, slot := 48, constantValue := 0 }, { name := "DIRECTIONALITY_WHITESPACE", type := .byte, accessFlags := 25, slot := 49, constantValue := 0 }, { name := "DIRECTIONALITY_OTHER_NEUTRALS", type := .byte, accessFlags := 25, slot := 50, constantValue := 0 }, { name := "DIRECTIONALITY_LEFT_TO_RIGHT_EMBEDDING", type := .byte, accessFlags := 25, slot := 51, constantValue := 0 }, { name := "DIRECTIONALITY_LEFT_TO_RIGHT_OVERRIDE", type := .byte, accessFlags := 25, slot := 52, constantValue := 0 }, { name := "DIRECTIONALITY_RIGHT_TO_LEFT_EMBEDDING", type := .byte, accessFlags := 25, slot := 53, constantValue := 0 }, { name := "DIRECTIONALITY_RIGHT_TO_LEFT_OVERRIDE", type := .byte, accessFlags := 25, slot := 54, constantValue := 0 }, { name := "DIRECTIONALITY_POP_DIRECTIONAL_FORMAT", type := .byte, accessFlags := 25, slot := 55, constantValue := 0 }, { name := "DIRECTIONALITY_LEFT_TO_RIGHT_ISOLATE", type := .byte, accessFlags := 25, slot := 56, constantValue := 0 }, { name := "DIRECTIONALITY_RIGHT_TO_LEFT_ISOLATE", type := .byte, accessFlags := 25, slot := 57, constantValue := 0 }, { name := "DIRECTIONALITY_FIRST_STRONG_ISOLATE", type := .byte, accessFlags := 25, slot := 58, constantValue := 0 }, { name := "DIRECTIONALITY_POP_DIRECTIONAL_ISOLATE", type := .byte, accessFlags := 25, slot := 59, constantValue := 0 }, { name := "MIN_HIGH_SURROGATE", type := .char, accessFlags := 25, slot := 60, constantValue := 0 }, { name := "MAX_HIGH_SURROGATE", type := .char, accessFlags := 25, slot := 61, constantValue := 0 }, { name := "MIN_LOW_SURROGATE", type := .char, accessFlags := 25, slot := 62, constantValue := 0 }, { name := "MAX_LOW_SURROGATE", type := .char, accessFlags := 25, slot := 63, constantValue := 0 }, { name := "MIN_SURROGATE", type := .char, accessFlags := 25, slot := 64, constantValue := 0 }, { name := "MAX_SURROGATE", type := .char, accessFlags := 25, slot := 65, constantValue := 0 }, { name := "MIN_SUPPLEMENTARY_CODE_POINT", type := .int, accessFlags := 25, slot := 66, constantValue := 0 }, { name := "MIN_CODE_POINT", type := .int, accessFlags := 25, slot := 67, constantValue := 0 }, { name := "MAX_CODE_POINT", type := .int, accessFlags := 25, slot := 68, constantValue := 0 }, { name := "value", type := .char, accessFlags := 18, slot := 0, constantValue := 0 }, { name := "serialVersionUID", type := .long, accessFlags := 26, slot := 69, constantValue := 0 }, { name := "SIZE", type := .int, accessFlags := 25, slot := 70, constantValue := 0 }, { name := "BYTES", type := .int, accessFlags := 25, slot := 71, constantValue := 0 }, { name := "$assertionsDisabled", type := .boolean, accessFlags := 4120, slot := 72, constantValue := 0 }]
  methods := #[k11m0, k11m1, k11m2, k11m3, k11m4]
  instanceTypes := #[.char]
  staticTypes := #[.int, .int, .char, .char, (.object "java/lang/Class"), .byte, .byte, .byte, .byte, .byte, .byte, .byte, .byte, .byte, .byte, .byte, .byte, .byte, .byte, .byte, .byte, .byte, .byte, .byte, .byte, .byte, .byte, .byte, .byte, .byte, .byte, .byte, .byte, .byte, .byte, .int, .byte, .byte, .byte, .byte, .byte, .byte, .byte, .byte, .byte, .byte, .byte, .byte, .byte, .byte, .byte, .byte, .byte, .byte, .byte, .byte, .byte, .byte, .byte, .byte, .char, .char, .char, .char, .char, .char, .int, .int, .int, .long, .int, .int, .boolean]
  resolved := Array.replicate 604 none
  statics := none }

def pool12 : Array CpInfo := pool [(1, .class_ 2), (0, u "java/lang/String"), (1, .class_ 6), (1, u "java/lang/Object"), (0, u "<init>"), (0, u "()V"), (0, .methodref 1 10), (0, .nameAndType 11 12), (0, u "checkIndex"), (0, u "(II)V"), (1, .class_ 16), (1, u "java/lang/StringLatin1"), (36, u "([BI)C"), (67, u "$assertionsDisabled"), (0, u "Z"), (98, .class_ 223), (1, u "java/lang/StringLatin1$LinesSpliterator"), (28, u "charAt"), (137, .class_ 391), (0, u "java/lang/StringLatin1$CharsSpliterator")] 3

def k12m0 : Method := { name := "<init>", desc := "()V", sig := { parameters := [], returnType := none }, accessFlags := 0, code := none }
def k12c1 : Code := { maxStack := 2, maxLocals := 2, code := jdk_43_method_2_code, exceptionTable := #[], attributes := #[] }
def k12m1 : Method := { name := "charAt", desc := "([BI)C", sig := { parameters := [(.array .byte), .int], returnType := some .char }, accessFlags := 9, code := some k12c1 }
/-- java/lang/StringLatin1 -/
def k12 : Class := { plain "java/lang/StringLatin1" (some 0) with
  accessFlags := 48
  interfaces := #[]
  cf := some (fileOf pool12 14 #[.nestMembers #[390, 221]] #[{ accessFlags := 0, nameIndex := 7, descriptorIndex := 8, attributes := #[] }, { accessFlags := 9, nameIndex := 252, descriptorIndex := 53, attributes := #[] }] 48 4 #[] #[{ accessFlags := 4120, nameIndex := 121, descriptorIndex := 122, attributes := #[] }])
  fields := #[{ name := "$assertionsDisabled", type := .boolean, accessFlags := 4120, slot := 0, constantValue := 0 }]
  methods := #[k12m0, k12m1]
  instanceTypes := #[]
  staticTypes := #[.boolean]
  resolved := Array.replicate 395 none
  statics := none }

def pool13 : Array CpInfo := pool [(9, u "<init>"), (6, .class_ 18), (1, u "java/lang/Object"), (0, u "()V"), (1, .class_ 23), (1, u "jdk/internal/util/ArraysSupport"), (0, u "LOG2_ARRAY_LONG_INDEX_SCALE"), (0, u "I"), (2, u "U"), (0, u "Ljdk/internal/misc/Unsafe;"), (8, u "BIG_ENDIAN"), (0, u "Z"), (8, u "LOG2_BYTE_BIT_SIZE"), (4, u "LOG2_ARRAY_INT_INDEX_SCALE"), (54, u "JLA"), (0, u "Ljdk/internal/access/JavaLangAccess;"), (11, u "LOG2_ARRAY_BOOLEAN_INDEX_SCALE"), (9, u "LOG2_ARRAY_BYTE_INDEX_SCALE"), (5, u "LOG2_ARRAY_CHAR_INDEX_SCALE"), (5, u "LOG2_ARRAY_SHORT_INDEX_SCALE"), (18, u "LOG2_ARRAY_FLOAT_INDEX_SCALE"), (24, u "LOG2_ARRAY_DOUBLE_INDEX_SCALE"), (89, u "T_BOOLEAN"), (2, u "T_CHAR"), (1, u "T_FLOAT"), (1, u "T_DOUBLE"), (1, u "T_BYTE"), (1, u "T_SHORT"), (1, u "T_INT"), (1, u "T_LONG"), (1, u "SOFT_MAX_ARRAY_LENGTH")] 83

def k13m0 : Method := { name := "<init>", desc := "()V", sig := { parameters := [], returnType := none }, accessFlags := 2, code := none }
/-- jdk/internal/util/ArraysSupport -/
def k13 : Class := { plain "jdk/internal/util/ArraysSupport" (some 0) with
  accessFlags := 33
  interfaces := #[]
  cf := some (fileOf pool13 21 #[] #[{ accessFlags := 2, nameIndex := 9, descriptorIndex := 19, attributes := #[] }] 33 16 #[] #[{ accessFlags := 24, nameIndex := 28, descriptorIndex := 29, attributes := #[] }, { accessFlags := 26, nameIndex := 38, descriptorIndex := 39, attributes := #[] }, { accessFlags := 25, nameIndex := 121, descriptorIndex := 25, attributes := #[] }, { accessFlags := 25, nameIndex := 131, descriptorIndex := 25, attributes := #[] }, { accessFlags := 25, nameIndex := 137, descriptorIndex := 25, attributes := #[] }, { accessFlags := 25, nameIndex := 143, descriptorIndex := 25, attributes := #[] }, { accessFlags := 25, nameIndex := 53, descriptorIndex := 25, attributes := #[] }, { accessFlags := 25, nameIndex := 24, descriptorIndex := 25, attributes := #[] }, { accessFlags := 25, nameIndex := 162, descriptorIndex := 25, attributes := #[] }, { accessFlags := 25, nameIndex := 187, descriptorIndex := 25, attributes := #[] }, { accessFlags := 26, nameIndex := 48, descriptorIndex := 25, attributes := #[] }, { accessFlags := 25, nameIndex := 277, descriptorIndex := 25, attributes := #[] }, { accessFlags := 25, nameIndex := 280, descriptorIndex := 25, attributes := #[] }, { accessFlags := 25, nameIndex := 282, descriptorIndex := 25, attributes := #[] }, { accessFlags := 25, nameIndex := 284, descriptorIndex := 25, attributes := #[] }, { accessFlags := 25, nameIndex := 286, descriptorIndex := 25, attributes := #[] }, { accessFlags := 25, nameIndex := 288, descriptorIndex := 25, attributes := #[] }, { accessFlags := 25, nameIndex := 290, descriptorIndex := 25, attributes := #[] }, { accessFlags := 25, nameIndex := 292, descriptorIndex := 25, attributes := #[] }, { accessFlags := 26, nameIndex := 108, descriptorIndex := 109, attributes := #[] }, { accessFlags := 25, nameIndex := 294, descriptorIndex := 25, attributes := #[] }])
  fields := #[{ name := "U", type := (.object "jdk/internal/misc/Unsafe"), accessFlags := 24, slot := 0, constantValue := 0 }, { name := "BIG_ENDIAN", type := .boolean, accessFlags := 26, slot := 1, constantValue := 0 }, { name := "LOG2_ARRAY_BOOLEAN_INDEX_SCALE", type := .int, accessFlags := 25, slot := 2, constantValue := 0 }, { name := "LOG2_ARRAY_BYTE_INDEX_SCALE", type := .int, accessFlags := 25, slot := 3, constantValue := 0 }, { name := "LOG2_ARRAY_CHAR_INDEX_SCALE", type := .int, accessFlags := 25, slot := 4, constantValue := 0 }, { name := "LOG2_ARRAY_SHORT_INDEX_SCALE", type := .int, accessFlags := 25, slot := 5, constantValue := 0 }, { name := "LOG2_ARRAY_INT_INDEX_SCALE", type := .int, accessFlags := 25, slot := 6, constantValue := 0 }, { name := "LOG2_ARRAY_LONG_INDEX_SCALE", type := .int, accessFlags := 25, slot := 7, constantValue := 0 }, { name := "LOG2_ARRAY_FLOAT_INDEX_SCALE", type := .int, accessFlags := 25, slot := 8, constantValue := 0 }, { name := "LOG2_ARRAY_DOUBLE_INDEX_SCALE", type := .int, accessFlags := 25, slot := 9, constantValue := 0 }, { name := "LOG2_BYTE_BIT_SIZE", type := .int, accessFlags := 26, slot := 10, constantValue := 0 }, { name := "T_BOOLEAN", type := .int, accessFlags := 25, slot := 11, constantValue := 0 }, { name := "T_CHAR", type := .int, accessFlags := 25, slot := 12, constantValue := 0 }, { name := "T_FLOAT", type := .int, accessFlags := 25, slot := 13, constantValue := 0 }, { name := "T_DOUBLE", type := .int, accessFlags := 25, slot := 14, constantValue := 0 }, { name := "T_BYTE", type := .int, accessFlags := 25, slot := 15, constantValue := 0 }, { name := "T_SHORT", type := .int, accessFlags := 25, slot := 16, constantValue := 0 }, { name := "T_INT", type := .int, accessFlags := 25, slot := 17, constantValue := 0 }, { name := "T_LONG", type := .int, accessFlags := 25, slot := 18, constantValue := 0 }, { name := "JLA", type := (.object "jdk/internal/access/JavaLangAccess"), accessFlags := 26, slot := 19, constantValue := 0 }, { name := "SOFT_MAX_ARRAY_LENGTH", type := .int, accessFlags := 25, slot := 20, constantValue := 0 }]
  methods := #[k13m0]
  instanceTypes := #[]
  staticTypes := #[(.object "jdk/internal/misc/Unsafe"), .boolean, .int, .int, .int, .int, .int, .int, .int, .int, .int, .int, .int, .int, .int, .int, .int, .int, .int, (.object "jdk/internal/access/JavaLangAccess"), .int]
  resolved := Array.replicate 378 none
  statics := none }

def pool14 : Array CpInfo := pool [(1, u "java/lang/Cloneable"), (0, .class_ 1), (0, u "java/lang/Object"), (0, .class_ 3)] 3

/-- java/lang/Cloneable -/
def k14 : Class := { plain "java/lang/Cloneable" (some 0) with
  accessFlags := 1537
  interfaces := #[]
  cf := some (fileOf pool14 2 #[] #[] 1537 4 #[] #[])
  fields := #[]
  methods := #[]
  instanceTypes := #[]
  staticTypes := #[]
  resolved := Array.replicate 8 none
  statics := none }

/-- the primitive byte -/
def k15 : Class := { plain "byte" none with kind := .primitive 'B', accessFlags := 0x411 }
/-- [B -/
def k16 : Class := { plain "[B" (some 0) with kind := .array 15 .byte, interfaces := #[14, 2], accessFlags := 1041 }

/-- the primitive char -/
def k17 : Class := { plain "char" none with kind := .primitive 'C', accessFlags := 0x411 }
/-- [C -/
def k18 : Class := { plain "[C" (some 0) with kind := .array 17 .char, interfaces := #[14, 2], accessFlags := 1041 }

/-- the primitive int -/
def k19 : Class := { plain "int" none with kind := .primitive 'I', accessFlags := 0x411 }
/-- [I -/
def k20 : Class := { plain "[I" (some 0) with kind := .array 19 .int, interfaces := #[14, 2], accessFlags := 1041 }

def heap : Heap := #[{ cls := 7, slots := #[.long 0, .int 1, .null, .int 0, .null, .int 0, .int 0], vm := .statics 7 },
  { cls := 8, slots := #[.int 0, .int 8, .int 0, .int 1], vm := .statics 8 },
  { cls := 10, slots := #[.null, .null, .null], vm := .statics 10 }]
def classes : Array Class := #[k0, k1, k2, k3, k4, k5, k6, k7, k8, k9, k10, k11, k12, k13, k14, k15, k16, k17, k18, k19, k20]
def interned : List (Array UInt16 × Addr) := []
def slotsUsed : Nat := 14
def theMethod : MethodId := ⟨1, 3⟩
def args0 : Array Value := #[.int 5, .int 6, .int 7, .int 8, .int 9, .int 10]
def aboutOver (below : List Frame) : State where
  vm := { classes := classes, interned := interned.toArray }
  heap := heap
  slotsUsed := slotsUsed
  threads := #[{ frames := .invoking theMethod args0 :: below }]
def below0 : List Frame := [.native { method := ⟨0, 0⟩, args := #[] }]
def about1 : State := aboutOver below0
def p0 : Program := .bare "" "" ""
def e0 : Env := launch0.env 0 0 0
theorem w_frames : about1.frames = Frame.invoking theMethod args0 :: below0 := rfl
set_option maxRecDepth 65536 in
theorem w_args : argsFit about1.vm theMethod args0 = true := by decide +kernel
set_option maxRecDepth 65536 in
theorem w_heap : heapFits about1 = true := by decide +kernel
set_option maxRecDepth 65536 in
theorem w_runnable : about1.curStatus? = some .runnable := by decide +kernel
set_option maxRecDepth 65536 in
theorem w_alone : about1.alone = true := by decide +kernel
set_option maxRecDepth 65536 in
theorem w_named : about1.methodNamed? x = some theMethod := by decide +kernel
set_option maxRecDepth 65536 in
theorem w_hears : about1.hears theMethod below0 = true := by decide +kernel
set_option maxRecDepth 65536 in
theorem w_ripe : about1.ripe theMethod args0 below0 = true := by decide +kernel
theorem w_running : about1.status = .running := rfl
set_option maxRecDepth 65536 in
theorem w_room : about1.hasRoom e0.platform room_1 = true :=
  launch0.hasRoom_least _ room_1 (by decide +kernel) (by decide +kernel) (by decide +kernel) (by decide +kernel) (by decide +kernel) (by decide +kernel)
theorem allAtoms_all (ts : List Jvm.Cond) (a : Array Jvm.Value) (st : Jvm.State) : (allAtoms ts).before a st = ts.all (fun c => c.before a st) := by
  induction ts with
  | nil => rfl
  | cons c t ih =>
    show (Jvm.Cond.and c (allAtoms t)).before a st = _
    rw [Jvm.Cond.before_and, ih, List.all_cons]
def words1 : List Jvm.Cond := Jvm.Cond.code x code maxLocals ret :: tables_1
/-- a 'code' word, met by the world's own term for the bytes: nothing is compared byte by byte -/
theorem code_word {y : MethodName} {bytes : ByteArray} {mx : Nat} {rt : Option FieldType} {a : Array Value} {s : State} {m : MethodId} {meth : Method} {c : Code} (h1 : s.methodNamed? y = some m) (h2 : s.vm.method? m = some meth) (h3 : meth.code = some c) (h4 : c.code = bytes)
    (h5 : (c.maxLocals == mx && c.exceptionTable.isEmpty && decide (c.maxStack ≤ mostOperands) && decide (meth.sig.returnType = rt) && !meth.locks && decide (parseMethodDescriptor y.desc = some meth.sig)) = true) : (Jvm.Cond.code y bytes mx rt).before a s = true := by
  simp only [Bool.and_eq_true, beq_iff_eq, Bool.not_eq_true', decide_eq_true_eq] at h5
  obtain ⟨⟨⟨⟨⟨g1, g2⟩, g3⟩, g4⟩, g5⟩, g6⟩ := h5
  simp [Cond.before, Cond.holds, Cond.value, h1, h2, h3, h4, g1, g2, g3, g4, g5, g6]
def isCode : Jvm.Cond → Bool
  | .code _ _ _ _ => true
  | _ => false
theorem all_split {L : List Jvm.Cond} {P : Jvm.Cond → Bool} (h1 : L.all (fun c => isCode c || P c) = true) (h2 : ∀ c ∈ L.filter isCode, P c = true) : L.all P = true := by
  refine List.all_eq_true.mpr fun c hc => ?_
  have h := List.all_eq_true.mp h1 c hc
  rcases Bool.eq_false_or_eq_true (isCode c) with hi | hi
  · exact h2 c (List.mem_filter.mpr ⟨hc, hi⟩)
  · simpa [hi] using h
set_option maxRecDepth 65536 in
theorem w_c0 : (Jvm.Cond.code x code maxLocals ret).before args0 about1 = true := code_word (m := ⟨1, 3⟩) (meth := k1m3) (c := k1c3) (by decide +kernel) rfl rfl rfl (by decide +kernel)
set_option maxRecDepth 65536 in
theorem w_c1 : (Jvm.Cond.code ({ cls := "com/example/half_message_commit/halfmessagecommit/protocol/TextUtf8LengthPinLaw", name := "fill", desc := "([CIII)I" } : Jvm.MethodName) method_3_code (6 : Nat) (Option.some Jvm.ClassFile.FieldType.int)).before args0 about1 = true := code_word (m := ⟨1, 2⟩) (meth := k1m2) (c := k1c2) (by decide +kernel) rfl rfl rfl (by decide +kernel)
set_option maxRecDepth 65536 in
theorem w_c2 : (Jvm.Cond.code ({ cls := "com/example/half_message_commit/halfmessagecommit/protocol/TextUtf8LengthPinLaw", name := "cp", desc := "(II)I" } : Jvm.MethodName) method_2_code (4 : Nat) (Option.some Jvm.ClassFile.FieldType.int)).before args0 about1 = true := code_word (m := ⟨1, 1⟩) (meth := k1m1) (c := k1c1) (by decide +kernel) rfl rfl rfl (by decide +kernel)
set_option maxRecDepth 65536 in
theorem w_c3 : (Jvm.Cond.code ({ cls := "java/lang/String", name := "<init>", desc := "([C)V" } : Jvm.MethodName) jdk_42_method_3_code (2 : Nat) (Option.none : Option Jvm.ClassFile.FieldType)).before args0 about1 = true := code_word (m := ⟨7, 1⟩) (meth := k7m1) (c := k7c1) (by decide +kernel) rfl rfl rfl (by decide +kernel)
set_option maxRecDepth 65536 in
theorem w_c4 : (Jvm.Cond.code ({ cls := "java/lang/String", name := "<init>", desc := "([CIILjava/lang/Void;)V" } : Jvm.MethodName) jdk_42_method_149_code (6 : Nat) (Option.none : Option Jvm.ClassFile.FieldType)).before args0 about1 = true := code_word (m := ⟨7, 5⟩) (meth := k7m5) (c := k7c5) (by decide +kernel) rfl rfl rfl (by decide +kernel)
set_option maxRecDepth 65536 in
theorem w_c5 : (Jvm.Cond.code ({ cls := "java/lang/Object", name := "<init>", desc := "()V" } : Jvm.MethodName) object_method_1_code (1 : Nat) (Option.none : Option Jvm.ClassFile.FieldType)).before args0 about1 = true := code_word (m := ⟨0, 0⟩) (meth := k0m0) (c := k0c0) (by decide +kernel) rfl rfl rfl (by decide +kernel)
set_option maxRecDepth 65536 in
theorem w_c6 : (Jvm.Cond.code ({ cls := "java/lang/StringUTF16", name := "compress", desc := "([CII)[B" } : Jvm.MethodName) jdk_52_method_16_code (6 : Nat) (Option.some (Jvm.ClassFile.FieldType.array Jvm.ClassFile.FieldType.byte))).before args0 about1 = true := code_word (m := ⟨8, 10⟩) (meth := k8m10) (c := k8c10) (by decide +kernel) rfl rfl rfl (by decide +kernel)
set_option maxRecDepth 65536 in
theorem w_c7 : (Jvm.Cond.code ({ cls := "java/lang/StringUTF16", name := "compress", desc := "([CI[BII)I" } : Jvm.MethodName) jdk_52_method_21_code (7 : Nat) (Option.some Jvm.ClassFile.FieldType.int)).before args0 about1 = true := code_word (m := ⟨8, 11⟩) (meth := k8m11) (c := k8c11) (by decide +kernel) rfl rfl rfl (by decide +kernel)
set_option maxRecDepth 65536 in
theorem w_c8 : (Jvm.Cond.code ({ cls := "java/lang/StringUTF16", name := "toBytes", desc := "([CII)[B" } : Jvm.MethodName) jdk_52_method_14_code (5 : Nat) (Option.some (Jvm.ClassFile.FieldType.array Jvm.ClassFile.FieldType.byte))).before args0 about1 = true := code_word (m := ⟨8, 8⟩) (meth := k8m8) (c := k8c8) (by decide +kernel) rfl rfl rfl (by decide +kernel)
set_option maxRecDepth 65536 in
theorem w_c9 : (Jvm.Cond.code ({ cls := "java/lang/StringUTF16", name := "newBytesFor", desc := "(I)[B" } : Jvm.MethodName) jdk_52_method_2_code (1 : Nat) (Option.some (Jvm.ClassFile.FieldType.array Jvm.ClassFile.FieldType.byte))).before args0 about1 = true := code_word (m := ⟨8, 1⟩) (meth := k8m1) (c := k8c1) (by decide +kernel) rfl rfl rfl (by decide +kernel)
set_option maxRecDepth 65536 in
theorem w_c10 : (Jvm.Cond.code ({ cls := "java/lang/StringUTF16", name := "newBytesLength", desc := "(I)I" } : Jvm.MethodName) jdk_52_method_3_code (1 : Nat) (Option.some Jvm.ClassFile.FieldType.int)).before args0 about1 = true := code_word (m := ⟨8, 2⟩) (meth := k8m2) (c := k8c2) (by decide +kernel) rfl rfl rfl (by decide +kernel)
set_option maxRecDepth 65536 in
theorem w_c11 : (Jvm.Cond.code ({ cls := "java/lang/StringUTF16", name := "putChar", desc := "([BII)V" } : Jvm.MethodName) jdk_52_method_4_code (3 : Nat) (Option.none : Option Jvm.ClassFile.FieldType)).before args0 about1 = true := code_word (m := ⟨8, 3⟩) (meth := k8m3) (c := k8c3) (by decide +kernel) rfl rfl rfl (by decide +kernel)
set_option maxRecDepth 65536 in
theorem w_c12 : (Jvm.Cond.code ({ cls := "java/lang/StringUTF16", name := "getChar", desc := "([BI)C" } : Jvm.MethodName) jdk_52_method_5_code (2 : Nat) (Option.some Jvm.ClassFile.FieldType.char)).before args0 about1 = true := code_word (m := ⟨8, 4⟩) (meth := k8m4) (c := k8c4) (by decide +kernel) rfl rfl rfl (by decide +kernel)
set_option maxRecDepth 65536 in
theorem w_c13 : (Jvm.Cond.code ({ cls := "java/lang/StringUTF16", name := "coderFromArrayLen", desc := "([BI)B" } : Jvm.MethodName) jdk_52_method_15_code (2 : Nat) (Option.some Jvm.ClassFile.FieldType.byte)).before args0 about1 = true := code_word (m := ⟨8, 9⟩) (meth := k8m9) (c := k8c9) (by decide +kernel) rfl rfl rfl (by decide +kernel)
set_option maxRecDepth 65536 in
theorem w_c14 : (Jvm.Cond.code ({ cls := "com/example/half_message_commit/halfmessagecommit/protocol/Text", name := "utf8Length", desc := "(Ljava/lang/String;Ljava/lang/String;)J" } : Jvm.MethodName) prog_26_method_5_code (6 : Nat) (Option.some Jvm.ClassFile.FieldType.long)).before args0 about1 = true := code_word (m := ⟨9, 1⟩) (meth := k9m1) (c := k9c1) (by decide +kernel) rfl rfl rfl (by decide +kernel)
set_option maxRecDepth 65536 in
theorem w_c15 : (Jvm.Cond.code ({ cls := "java/lang/String", name := "length", desc := "()I" } : Jvm.MethodName) jdk_42_method_54_code (1 : Nat) (Option.some Jvm.ClassFile.FieldType.int)).before args0 about1 = true := code_word (m := ⟨7, 2⟩) (meth := k7m2) (c := k7c2) (by decide +kernel) rfl rfl rfl (by decide +kernel)
set_option maxRecDepth 65536 in
theorem w_c16 : (Jvm.Cond.code ({ cls := "java/lang/String", name := "coder", desc := "()B" } : Jvm.MethodName) jdk_42_method_152_code (1 : Nat) (Option.some Jvm.ClassFile.FieldType.byte)).before args0 about1 = true := code_word (m := ⟨7, 6⟩) (meth := k7m6) (c := k7c6) (by decide +kernel) rfl rfl rfl (by decide +kernel)
set_option maxRecDepth 65536 in
theorem w_c17 : (Jvm.Cond.code ({ cls := "com/example/half_message_commit/halfmessagecommit/protocol/Text", name := "requireWhole", desc := "(Ljava/lang/String;Ljava/lang/String;I)V" } : Jvm.MethodName) prog_26_method_6_code (3 : Nat) (Option.none : Option Jvm.ClassFile.FieldType)).before args0 about1 = true := code_word (m := ⟨9, 2⟩) (meth := k9m2) (c := k9c2) (by decide +kernel) rfl rfl rfl (by decide +kernel)
set_option maxRecDepth 65536 in
theorem w_c18 : (Jvm.Cond.code ({ cls := "java/lang/String", name := "charAt", desc := "(I)C" } : Jvm.MethodName) jdk_42_method_56_code (2 : Nat) (Option.some Jvm.ClassFile.FieldType.char)).before args0 about1 = true := code_word (m := ⟨7, 3⟩) (meth := k7m3) (c := k7c3) (by decide +kernel) rfl rfl rfl (by decide +kernel)
set_option maxRecDepth 65536 in
theorem w_c19 : (Jvm.Cond.code ({ cls := "java/lang/String", name := "isLatin1", desc := "()Z" } : Jvm.MethodName) jdk_42_method_154_code (1 : Nat) (Option.some Jvm.ClassFile.FieldType.boolean)).before args0 about1 = true := code_word (m := ⟨7, 7⟩) (meth := k7m7) (c := k7c7) (by decide +kernel) rfl rfl rfl (by decide +kernel)
set_option maxRecDepth 65536 in
theorem w_c20 : (Jvm.Cond.code ({ cls := "java/lang/StringUTF16", name := "charAt", desc := "([BI)C" } : Jvm.MethodName) jdk_52_method_83_code (2 : Nat) (Option.some Jvm.ClassFile.FieldType.char)).before args0 about1 = true := code_word (m := ⟨8, 12⟩) (meth := k8m12) (c := k8c12) (by decide +kernel) rfl rfl rfl (by decide +kernel)
set_option maxRecDepth 65536 in
theorem w_c21 : (Jvm.Cond.code ({ cls := "java/lang/StringUTF16", name := "checkIndex", desc := "(I[B)V" } : Jvm.MethodName) jdk_52_method_91_code (2 : Nat) (Option.none : Option Jvm.ClassFile.FieldType)).before args0 about1 = true := code_word (m := ⟨8, 13⟩) (meth := k8m13) (c := k8c13) (by decide +kernel) rfl rfl rfl (by decide +kernel)
set_option maxRecDepth 65536 in
theorem w_c22 : (Jvm.Cond.code ({ cls := "java/lang/StringUTF16", name := "length", desc := "([B)I" } : Jvm.MethodName) jdk_52_method_6_code (1 : Nat) (Option.some Jvm.ClassFile.FieldType.int)).before args0 about1 = true := code_word (m := ⟨8, 5⟩) (meth := k8m5) (c := k8c5) (by decide +kernel) rfl rfl rfl (by decide +kernel)
set_option maxRecDepth 65536 in
theorem w_c23 : (Jvm.Cond.code ({ cls := "java/lang/String", name := "checkIndex", desc := "(II)V" } : Jvm.MethodName) jdk_42_method_155_code (2 : Nat) (Option.none : Option Jvm.ClassFile.FieldType)).before args0 about1 = true := code_word (m := ⟨7, 8⟩) (meth := k7m8) (c := k7c8) (by decide +kernel) rfl rfl rfl (by decide +kernel)
set_option maxRecDepth 65536 in
theorem w_c24 : (Jvm.Cond.code ({ cls := "jdk/internal/util/Preconditions", name := "checkIndex", desc := "(IILjava/util/function/BiFunction;)I" } : Jvm.MethodName) jdk_41_method_11_code (3 : Nat) (Option.some Jvm.ClassFile.FieldType.int)).before args0 about1 = true := code_word (m := ⟨10, 1⟩) (meth := k10m1) (c := k10c1) (by decide +kernel) rfl rfl rfl (by decide +kernel)
set_option maxRecDepth 65536 in
theorem w_c25 : (Jvm.Cond.code ({ cls := "java/lang/Character", name := "isSurrogate", desc := "(C)Z" } : Jvm.MethodName) jdk_89_method_16_code (1 : Nat) (Option.some Jvm.ClassFile.FieldType.boolean)).before args0 about1 = true := code_word (m := ⟨11, 2⟩) (meth := k11m2) (c := k11c2) (by decide +kernel) rfl rfl rfl (by decide +kernel)
set_option maxRecDepth 65536 in
theorem w_c26 : (Jvm.Cond.code ({ cls := "java/lang/String", name := "codePointAt", desc := "(I)I" } : Jvm.MethodName) jdk_42_method_57_code (3 : Nat) (Option.some Jvm.ClassFile.FieldType.int)).before args0 about1 = true := code_word (m := ⟨7, 4⟩) (meth := k7m4) (c := k7c4) (by decide +kernel) rfl rfl rfl (by decide +kernel)
set_option maxRecDepth 65536 in
theorem w_c27 : (Jvm.Cond.code ({ cls := "java/lang/StringUTF16", name := "codePointAt", desc := "([BII)I" } : Jvm.MethodName) jdk_52_method_8_code (3 : Nat) (Option.some Jvm.ClassFile.FieldType.int)).before args0 about1 = true := code_word (m := ⟨8, 7⟩) (meth := k8m7) (c := k8c7) (by decide +kernel) rfl rfl rfl (by decide +kernel)
set_option maxRecDepth 65536 in
theorem w_c28 : (Jvm.Cond.code ({ cls := "java/lang/StringUTF16", name := "codePointAt", desc := "([BIIZ)I" } : Jvm.MethodName) jdk_52_method_7_code (6 : Nat) (Option.some Jvm.ClassFile.FieldType.int)).before args0 about1 = true := code_word (m := ⟨8, 6⟩) (meth := k8m6) (c := k8c6) (by decide +kernel) rfl rfl rfl (by decide +kernel)
set_option maxRecDepth 65536 in
theorem w_c29 : (Jvm.Cond.code ({ cls := "java/lang/Character", name := "isHighSurrogate", desc := "(C)Z" } : Jvm.MethodName) jdk_89_method_14_code (1 : Nat) (Option.some Jvm.ClassFile.FieldType.boolean)).before args0 about1 = true := code_word (m := ⟨11, 0⟩) (meth := k11m0) (c := k11c0) (by decide +kernel) rfl rfl rfl (by decide +kernel)
set_option maxRecDepth 65536 in
theorem w_c30 : (Jvm.Cond.code ({ cls := "java/lang/Character", name := "charCount", desc := "(I)I" } : Jvm.MethodName) jdk_89_method_18_code (1 : Nat) (Option.some Jvm.ClassFile.FieldType.int)).before args0 about1 = true := code_word (m := ⟨11, 3⟩) (meth := k11m3) (c := k11c3) (by decide +kernel) rfl rfl rfl (by decide +kernel)
set_option maxRecDepth 65536 in
theorem w_c31 : (Jvm.Cond.code ({ cls := "java/lang/Character", name := "isLowSurrogate", desc := "(C)Z" } : Jvm.MethodName) jdk_89_method_15_code (1 : Nat) (Option.some Jvm.ClassFile.FieldType.boolean)).before args0 about1 = true := code_word (m := ⟨11, 1⟩) (meth := k11m1) (c := k11c1) (by decide +kernel) rfl rfl rfl (by decide +kernel)
set_option maxRecDepth 65536 in
theorem w_c32 : (Jvm.Cond.code ({ cls := "java/lang/Character", name := "toCodePoint", desc := "(CC)I" } : Jvm.MethodName) jdk_89_method_19_code (2 : Nat) (Option.some Jvm.ClassFile.FieldType.int)).before args0 about1 = true := code_word (m := ⟨11, 4⟩) (meth := k11m4) (c := k11c4) (by decide +kernel) rfl rfl rfl (by decide +kernel)
set_option maxRecDepth 65536 in
theorem w_c33 : (Jvm.Cond.code ({ cls := "java/lang/StringLatin1", name := "charAt", desc := "([BI)C" } : Jvm.MethodName) jdk_43_method_2_code (2 : Nat) (Option.some Jvm.ClassFile.FieldType.char)).before args0 about1 = true := code_word (m := ⟨12, 1⟩) (meth := k12m1) (c := k12c1) (by decide +kernel) rfl rfl rfl (by decide +kernel)
def codes1 : List Jvm.Cond := [Jvm.Cond.code x code maxLocals ret, Jvm.Cond.code ({ cls := "com/example/half_message_commit/halfmessagecommit/protocol/TextUtf8LengthPinLaw", name := "fill", desc := "([CIII)I" } : Jvm.MethodName) method_3_code (6 : Nat) (Option.some Jvm.ClassFile.FieldType.int), Jvm.Cond.code ({ cls := "com/example/half_message_commit/halfmessagecommit/protocol/TextUtf8LengthPinLaw", name := "cp", desc := "(II)I" } : Jvm.MethodName) method_2_code (4 : Nat) (Option.some Jvm.ClassFile.FieldType.int), Jvm.Cond.code ({ cls := "java/lang/String", name := "<init>", desc := "([C)V" } : Jvm.MethodName) jdk_42_method_3_code (2 : Nat) (Option.none : Option Jvm.ClassFile.FieldType), Jvm.Cond.code ({ cls := "java/lang/String", name := "<init>", desc := "([CIILjava/lang/Void;)V" } : Jvm.MethodName) jdk_42_method_149_code (6 : Nat) (Option.none : Option Jvm.ClassFile.FieldType), Jvm.Cond.code ({ cls := "java/lang/Object", name := "<init>", desc := "()V" } : Jvm.MethodName) object_method_1_code (1 : Nat) (Option.none : Option Jvm.ClassFile.FieldType), Jvm.Cond.code ({ cls := "java/lang/StringUTF16", name := "compress", desc := "([CII)[B" } : Jvm.MethodName) jdk_52_method_16_code (6 : Nat) (Option.some (Jvm.ClassFile.FieldType.array Jvm.ClassFile.FieldType.byte)), Jvm.Cond.code ({ cls := "java/lang/StringUTF16", name := "compress", desc := "([CI[BII)I" } : Jvm.MethodName) jdk_52_method_21_code (7 : Nat) (Option.some Jvm.ClassFile.FieldType.int), Jvm.Cond.code ({ cls := "java/lang/StringUTF16", name := "toBytes", desc := "([CII)[B" } : Jvm.MethodName) jdk_52_method_14_code (5 : Nat) (Option.some (Jvm.ClassFile.FieldType.array Jvm.ClassFile.FieldType.byte)), Jvm.Cond.code ({ cls := "java/lang/StringUTF16", name := "newBytesFor", desc := "(I)[B" } : Jvm.MethodName) jdk_52_method_2_code (1 : Nat) (Option.some (Jvm.ClassFile.FieldType.array Jvm.ClassFile.FieldType.byte)), Jvm.Cond.code ({ cls := "java/lang/StringUTF16", name := "newBytesLength", desc := "(I)I" } : Jvm.MethodName) jdk_52_method_3_code (1 : Nat) (Option.some Jvm.ClassFile.FieldType.int), Jvm.Cond.code ({ cls := "java/lang/StringUTF16", name := "putChar", desc := "([BII)V" } : Jvm.MethodName) jdk_52_method_4_code (3 : Nat) (Option.none : Option Jvm.ClassFile.FieldType), Jvm.Cond.code ({ cls := "java/lang/StringUTF16", name := "getChar", desc := "([BI)C" } : Jvm.MethodName) jdk_52_method_5_code (2 : Nat) (Option.some Jvm.ClassFile.FieldType.char), Jvm.Cond.code ({ cls := "java/lang/StringUTF16", name := "coderFromArrayLen", desc := "([BI)B" } : Jvm.MethodName) jdk_52_method_15_code (2 : Nat) (Option.some Jvm.ClassFile.FieldType.byte), Jvm.Cond.code ({ cls := "com/example/half_message_commit/halfmessagecommit/protocol/Text", name := "utf8Length", desc := "(Ljava/lang/String;Ljava/lang/String;)J" } : Jvm.MethodName) prog_26_method_5_code (6 : Nat) (Option.some Jvm.ClassFile.FieldType.long), Jvm.Cond.code ({ cls := "java/lang/String", name := "length", desc := "()I" } : Jvm.MethodName) jdk_42_method_54_code (1 : Nat) (Option.some Jvm.ClassFile.FieldType.int), Jvm.Cond.code ({ cls := "java/lang/String", name := "coder", desc := "()B" } : Jvm.MethodName) jdk_42_method_152_code (1 : Nat) (Option.some Jvm.ClassFile.FieldType.byte), Jvm.Cond.code ({ cls := "com/example/half_message_commit/halfmessagecommit/protocol/Text", name := "requireWhole", desc := "(Ljava/lang/String;Ljava/lang/String;I)V" } : Jvm.MethodName) prog_26_method_6_code (3 : Nat) (Option.none : Option Jvm.ClassFile.FieldType), Jvm.Cond.code ({ cls := "java/lang/String", name := "charAt", desc := "(I)C" } : Jvm.MethodName) jdk_42_method_56_code (2 : Nat) (Option.some Jvm.ClassFile.FieldType.char), Jvm.Cond.code ({ cls := "java/lang/String", name := "isLatin1", desc := "()Z" } : Jvm.MethodName) jdk_42_method_154_code (1 : Nat) (Option.some Jvm.ClassFile.FieldType.boolean), Jvm.Cond.code ({ cls := "java/lang/StringUTF16", name := "charAt", desc := "([BI)C" } : Jvm.MethodName) jdk_52_method_83_code (2 : Nat) (Option.some Jvm.ClassFile.FieldType.char), Jvm.Cond.code ({ cls := "java/lang/StringUTF16", name := "checkIndex", desc := "(I[B)V" } : Jvm.MethodName) jdk_52_method_91_code (2 : Nat) (Option.none : Option Jvm.ClassFile.FieldType), Jvm.Cond.code ({ cls := "java/lang/StringUTF16", name := "length", desc := "([B)I" } : Jvm.MethodName) jdk_52_method_6_code (1 : Nat) (Option.some Jvm.ClassFile.FieldType.int), Jvm.Cond.code ({ cls := "java/lang/String", name := "checkIndex", desc := "(II)V" } : Jvm.MethodName) jdk_42_method_155_code (2 : Nat) (Option.none : Option Jvm.ClassFile.FieldType), Jvm.Cond.code ({ cls := "jdk/internal/util/Preconditions", name := "checkIndex", desc := "(IILjava/util/function/BiFunction;)I" } : Jvm.MethodName) jdk_41_method_11_code (3 : Nat) (Option.some Jvm.ClassFile.FieldType.int), Jvm.Cond.code ({ cls := "java/lang/Character", name := "isSurrogate", desc := "(C)Z" } : Jvm.MethodName) jdk_89_method_16_code (1 : Nat) (Option.some Jvm.ClassFile.FieldType.boolean), Jvm.Cond.code ({ cls := "java/lang/String", name := "codePointAt", desc := "(I)I" } : Jvm.MethodName) jdk_42_method_57_code (3 : Nat) (Option.some Jvm.ClassFile.FieldType.int), Jvm.Cond.code ({ cls := "java/lang/StringUTF16", name := "codePointAt", desc := "([BII)I" } : Jvm.MethodName) jdk_52_method_8_code (3 : Nat) (Option.some Jvm.ClassFile.FieldType.int), Jvm.Cond.code ({ cls := "java/lang/StringUTF16", name := "codePointAt", desc := "([BIIZ)I" } : Jvm.MethodName) jdk_52_method_7_code (6 : Nat) (Option.some Jvm.ClassFile.FieldType.int), Jvm.Cond.code ({ cls := "java/lang/Character", name := "isHighSurrogate", desc := "(C)Z" } : Jvm.MethodName) jdk_89_method_14_code (1 : Nat) (Option.some Jvm.ClassFile.FieldType.boolean), Jvm.Cond.code ({ cls := "java/lang/Character", name := "charCount", desc := "(I)I" } : Jvm.MethodName) jdk_89_method_18_code (1 : Nat) (Option.some Jvm.ClassFile.FieldType.int), Jvm.Cond.code ({ cls := "java/lang/Character", name := "isLowSurrogate", desc := "(C)Z" } : Jvm.MethodName) jdk_89_method_15_code (1 : Nat) (Option.some Jvm.ClassFile.FieldType.boolean), Jvm.Cond.code ({ cls := "java/lang/Character", name := "toCodePoint", desc := "(CC)I" } : Jvm.MethodName) jdk_89_method_19_code (2 : Nat) (Option.some Jvm.ClassFile.FieldType.int), Jvm.Cond.code ({ cls := "java/lang/StringLatin1", name := "charAt", desc := "([BI)C" } : Jvm.MethodName) jdk_43_method_2_code (2 : Nat) (Option.some Jvm.ClassFile.FieldType.char)]
set_option maxRecDepth 65536 in
theorem codes_eq : words1.filter isCode = codes1 := rfl
theorem w_codes : ∀ c ∈ words1.filter isCode, c.before args0 about1 = true := by
  rw [codes_eq]
  intro c hc
  simp only [codes1, List.mem_cons, List.not_mem_nil, or_false] at hc
  rcases hc with rfl | rfl | rfl | rfl | rfl | rfl | rfl | rfl | rfl | rfl | rfl | rfl | rfl | rfl | rfl | rfl | rfl | rfl | rfl | rfl | rfl | rfl | rfl | rfl | rfl | rfl | rfl | rfl | rfl | rfl | rfl | rfl | rfl | rfl
  · exact w_c0
  · exact w_c1
  · exact w_c2
  · exact w_c3
  · exact w_c4
  · exact w_c5
  · exact w_c6
  · exact w_c7
  · exact w_c8
  · exact w_c9
  · exact w_c10
  · exact w_c11
  · exact w_c12
  · exact w_c13
  · exact w_c14
  · exact w_c15
  · exact w_c16
  · exact w_c17
  · exact w_c18
  · exact w_c19
  · exact w_c20
  · exact w_c21
  · exact w_c22
  · exact w_c23
  · exact w_c24
  · exact w_c25
  · exact w_c26
  · exact w_c27
  · exact w_c28
  · exact w_c29
  · exact w_c30
  · exact w_c31
  · exact w_c32
  · exact w_c33
set_option maxRecDepth 65536 in
theorem w_t1 : (words1.take 24).all (fun c => isCode c || c.before args0 about1) = true := by decide +kernel
set_option maxRecDepth 65536 in
theorem w_t2 : ((words1.drop 24).take 24).all (fun c => isCode c || c.before args0 about1) = true := by decide +kernel
set_option maxRecDepth 65536 in
theorem w_t3 : (((words1.drop 24).drop 24).take 24).all (fun c => isCode c || c.before args0 about1) = true := by decide +kernel
set_option maxRecDepth 65536 in
theorem w_t4 : ((((words1.drop 24).drop 24).drop 24).take 24).all (fun c => isCode c || c.before args0 about1) = true := by decide +kernel
set_option maxRecDepth 65536 in
theorem w_t5 : (((((words1.drop 24).drop 24).drop 24).drop 24).take 24).all (fun c => isCode c || c.before args0 about1) = true := by decide +kernel
set_option maxRecDepth 65536 in
theorem w_t6 : ((((((words1.drop 24).drop 24).drop 24).drop 24).drop 24).take 24).all (fun c => isCode c || c.before args0 about1) = true := by decide +kernel
set_option maxRecDepth 65536 in
theorem w_t7 : ((((((words1.drop 24).drop 24).drop 24).drop 24).drop 24).drop 24).all (fun c => isCode c || c.before args0 about1) = true := by decide +kernel
theorem w_tables : (allAtoms (Jvm.Cond.code x code maxLocals ret :: tables_1)).before args0 about1 = true := by
  rw [allAtoms_all]
  show words1.all (fun c => c.before args0 about1) = true
  refine all_split ?_ w_codes
  rw [← List.take_append_drop 24 words1, List.all_append, w_t1, ← List.take_append_drop 24 (words1.drop 24), List.all_append, w_t2, ← List.take_append_drop 24 ((words1.drop 24).drop 24), List.all_append, w_t3, ← List.take_append_drop 24 (((words1.drop 24).drop 24).drop 24), List.all_append, w_t4, ← List.take_append_drop 24 ((((words1.drop 24).drop 24).drop 24).drop 24), List.all_append, w_t5, ← List.take_append_drop 24 (((((words1.drop 24).drop 24).drop 24).drop 24).drop 24), List.all_append, w_t6, w_t7]
  rfl
set_option maxRecDepth 65536 in
theorem w_rest : rest_1_c.before args0 about1 = true := by decide +kernel
set_option maxRecDepth 65536 in
theorem w_case : (Jvm.Cond.and given_1 narrow_1).before args0 about1 = true := by decide +kernel
set_option maxRecDepth 65536 in
theorem w_consts : constsHeld consts_1 about1 := Jvm.Lit.constsHeldB_iff.mp (by decide +kernel)
theorem w_applies : (headSpec (Jvm.Cond.code x code maxLocals ret :: tables_1) room_1).applies x e0.platform about1 = true :=
  (Spec.applies_iff w_frames).mpr ⟨w_running, w_runnable, w_alone, w_named, w_hears, w_ripe, w_room, w_tables⟩
theorem atStart : AtStart classFile x code maxLocals ret World_1 tables_1 room_1 Calls_1 rest_1 Pre_1 launch0 p0 e0 about1 theMethod args0 below0 :=
  ⟨lists_1, trivial, launch0.admits_env _ _ _, launch0.least_env, fairChoices_fair.cas, fairChoices_fair.clock, w_frames, w_args, w_heap, w_applies, ⟨w_consts, trivial⟩, w_rest, w_case⟩
end start1
theorem witness_1 : WitnessClaimed_1 := ⟨start1.p0, start1.e0, start1.about1, start1.theMethod, start1.args0, start1.below0, start1.atStart⟩
end Jvm.Pilot.@@N@@
