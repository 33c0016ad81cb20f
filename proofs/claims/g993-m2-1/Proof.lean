import JvmDerived
import JvmDerived.Pilot.@@N@@Statement
import JvmDerived.Pilot.@@N@@Code
set_option linter.unusedVariables false
set_option linter.unusedSimpArgs false
namespace Jvm.OwnK
open Sem ClassFile Op Lib Jvm.Stand Jvm.Free Jvm.LawKit Jvm.RoadKit
/-! a walk's surroundings: program, launch, environment, room, state at the call, method, arguments, frames below, the method's record and code -/
abbrev Cx : Type := Program × Launch × Env × Room × State × MethodId × Array Value × List Frame × Method × Code × State × List (String × Nat)
abbrev Cx.p (Γ : Cx) : Program := Γ.1
abbrev Cx.l (Γ : Cx) : Launch := Γ.2.1
abbrev Cx.e (Γ : Cx) : Env := Γ.2.2.1
abbrev Cx.R (Γ : Cx) : Room := Γ.2.2.2.1
abbrev Cx.s (Γ : Cx) : State := Γ.2.2.2.2.1
abbrev Cx.m (Γ : Cx) : MethodId := Γ.2.2.2.2.2.1
abbrev Cx.args (Γ : Cx) : Array Value := Γ.2.2.2.2.2.2.1
abbrev Cx.below (Γ : Cx) : List Frame := Γ.2.2.2.2.2.2.2.1
abbrev Cx.meth (Γ : Cx) : Method := Γ.2.2.2.2.2.2.2.2.1
abbrev Cx.c (Γ : Cx) : Code := Γ.2.2.2.2.2.2.2.2.2.1
abbrev Cx.Z (Γ : Cx) : State := Γ.2.2.2.2.2.2.2.2.2.2.1
abbrev Cx.EL (Γ : Cx) : List (String × Nat) := Γ.2.2.2.2.2.2.2.2.2.2.2
/-- the booked constants stand since the start, and the addresses of sf are none of theirs -/
def Hd (Γ : Cx) (vm : Vm) (h : Heap) (sf : List Addr) : Prop := CHr Γ.Z Γ.EL Γ.s.vm Γ.s.heap vm h ∧ ∀ x ∈ sf, x < h.size ∧ Safe Γ.Z Γ.EL vm h x
section HdS
variable {Γ : Cx} {vm : Vm} {h h' : Heap} {sf : List Addr}
theorem Hd.more (H : Hd Γ vm h sf) (E : Ext h h') : Hd Γ vm h' sf := ⟨H.1.trans (CHr.ext E H.1.1), fun x hx => ⟨Nat.lt_of_lt_of_le (H.2 x hx).1 E.1, (H.2 x hx).2.ext E H.1.1⟩⟩
theorem Hd.new (H : Hd Γ vm h sf) (E : Ext h h') (lt : h.size < h'.size) : Hd Γ vm h' (h.size :: sf) := ⟨(H.more E).1, fun x hx => by
  rcases List.mem_cons.mp hx with rfl | hx
  · exact ⟨lt, (Safe.new (Nat.le_refl _)).ext E H.1.1⟩
  · exact (H.more E).2 x hx⟩
theorem Hd.wr {a : Addr} {sl : Nat} {v : Value} (H : Hd Γ vm h sf) (W : Wr h h' a sl v) (ms : a ∈ sf) : Hd Γ vm h' sf := ⟨H.1.trans (CHr.wr W (H.2 a ms).2 H.1.1), fun x hx => ⟨by rw [W.size]; exact (H.2 x hx).1, Safe.wr W (H.2 a ms).2 H.1.1 (H.2 x hx).2⟩⟩
theorem Hd.keep {a : Addr} (H : Hd Γ vm h sf) (K : Keep h h' [a]) (ms : a ∈ sf) : Hd Γ vm h' sf := ⟨H.1.trans (CHr.keep K (fun x hx => by rw [List.mem_singleton.mp hx]; exact (H.2 a ms).2) H.1.1), fun x hx => ⟨Nat.lt_of_lt_of_le (H.2 x hx).1 K.1, (H.2 x hx).2.keep K (fun x hx => by rw [List.mem_singleton.mp hx]; exact (H.2 a ms).2) H.1.1⟩⟩
end HdS
/-- what stays the same all along a walk -/
def Ctx (Γ : Cx) (Z : State) (EL : List (String × Nat)) (own : String) (bytes : ByteArray) (maxl : Nat) (ret : Option FieldType) (nm : String) (rm : Room) (hs : Heap) : Prop :=
  Γ.p.tables.exec = Jvm.exec ∧ Z.Warmed39 Γ.s.vm ∧ Γ.s.vm.findClass own = some Γ.m.cls ∧ Γ.c.code = bytes ∧ Γ.c.maxLocals = maxl ∧ Γ.meth.sig.returnType = ret ∧ Γ.meth.name = nm ∧ Γ.meth.locks = false ∧ Γ.R = rm ∧ Γ.s.heap = hs ∧ Γ.Z = Z ∧ Γ.EL = EL ∧ ∃ a0, EW Z a0 EL
/-- where the walk stands: the state T with the heap h; at most C cells and S slots made; what was written lies in cells made since the law began -/
def W (Γ : Cx) (n0 : Nat) (T : State) (h : Heap) (C S : Nat) (sf : List Addr) : Prop := ∃ locs vm0 k0, Stand Γ.p Γ.l Γ.e Γ.R (Γ.s.setVm vm0) Γ.m Γ.args Γ.below Γ.meth Γ.c T locs C S ∧ T.heap = h ∧ Fr n0 locs ∧ Γ.s.Since vm0 k0 ∧ k0 ≤ h.size ∧ Hd Γ vm0 h sf
/-- from here the run comes to the method's end with what Q says -/
def Go (Γ : Cx) (n0 : Nat) (Q : Option Value → Heap → List Addr → Prop) (T : State) (f : JFrame) : Prop :=
  ∃ s₂ o, Steps Γ.p.tables Γ.e Γ.below (T.setTop f) s₂ ∧ s₂.status = .running ∧ Ended s₂ Γ.below o ∧ ∃ v L, o = .returned v ∧ ((∃ sf', Q v s₂.heap sf' ∧ ∀ x ∈ sf', x < s₂.heap.size ∧ Safe Γ.Z Γ.EL s₂.vm s₂.heap x) ∧ Fr n0 L) ∧ CHr Γ.Z Γ.EL Γ.s.vm Γ.s.heap s₂.vm s₂.heap ∧ ReturnedEndW Γ.s o s₂ L Γ.R.cells Γ.R.slots
/-- a body's contract: called with these arguments at this heap it returns with what Q says -/
def MetW (Z : State) (EL : List (String × Nat)) (sf : List Addr) (y : MethodName) (bytes : ByteArray) (maxl : Nat) (ret : Option FieldType) (ws : List Cond) (rm : Room) (as' : Array Value) (h0 : Heap) (n0 : Nat) (Q : Option Value → Heap → List Addr → Prop) : Prop :=
  ∀ l : Launch, MetFree l y (head1 (Cond.code y bytes maxl ret :: ws) rm) (fun a U => a = as' ∧ Z.Warmed39 U.vm ∧ U.heap = h0 ∧ CHv Z EL U.vm h0 ∧ ∀ x ∈ sf, x < h0.size ∧ Safe Z EL U.vm h0 x) (fun _ _ _ _ _ => True) (fun _ U o U' => ∃ v L, o = .returned v ∧ ((∃ sf', Q v U'.heap sf' ∧ ∀ x ∈ sf', x < U'.heap.size ∧ Safe Z EL U'.vm U'.heap x) ∧ Fr n0 L) ∧ CHr Z EL U.vm U.heap U'.vm U'.heap ∧ ReturnedEndW U o U' L rm.cells rm.slots)
abbrev Met (Z : State) (EL : List (String × Nat)) (sf : List Addr) (y : MethodName) (bytes : ByteArray) (maxl : Nat) (ret : Option FieldType) (rm : Room) (as' : Array Value) (h0 : Heap) (n0 : Nat) (Q : Option Value → Heap → List Addr → Prop) : Prop := MetW Z EL sf y bytes maxl ret [] rm as' h0 n0 Q
section K
variable {Γ : Cx} {Z : State} {EL : List (String × Nat)} {sf : List Addr} {own nm : String} {bytes : ByteArray} {maxl : Nat} {ret : Option FieldType} {rm : Room} {n0 : Nat} {T : State} {h hs0 : Heap} {C S : Nat} {Q : Option Value → Heap → List Addr → Prop} {Ls : Array Slot} {st : List Value} {pc pc' : Nat}
theorem k_body {y : MethodName} {ws : List Cond} {as' : Array Value} {f : MethodId → JFrame} (hew : ∃ a0, EW Z a0 EL) (hx : plainFor y = true) (hf : ∀ m, entryFrame m as' maxl = f m)
    (body : ∀ (Γ : Cx) (T : State), Ctx Γ Z EL y.cls bytes maxl ret y.name rm h → W Γ n0 T h 0 0 sf → Go Γ n0 Q T (f Γ.m)) : MetW Z EL sf y bytes maxl ret ws rm as' h n0 Q := by
  intro l
  refine MetFree.of_bodySF (ret := ret) hx hisR ?_
  intro p e s m args below meth c s₁ Bd hml0 hP hK
  obtain ⟨rfl, hZ, hh, hC, hsf⟩ := hP
  subst hh
  have X0 : Stand p l e rm s m args below meth c s₁ [] 0 0 := Stand.of_body Bd
  have e0 : s₁.heap = s.heap := by rw [Bd.state]; rfl
  have g := body (p, l, e, rm, s, m, args, below, meth, c, Z, EL) s₁ ⟨Bd.exec, hZ, findClass_of_methodNamed Bd.named, Bd.bytes, hml0, Bd.returns, (name_of_methodNamed Bd.named Bd.method).1, Bd.notSynchronized, rfl, rfl, rfl, rfl, hew⟩ ⟨[], s.vm, 0, X0, e0, Fr.nil n0, (State.WarmedH.refl s).since 0, Nat.zero_le _, CHr.refl hC, hsf⟩
  rw [← hf] at g
  exact g
theorem Go.of {T' : State} {f f' : JFrame} (k : ∀ target, Steps Γ.p.tables Γ.e Γ.below (T'.setTop f') target → Steps Γ.p.tables Γ.e Γ.below (T.setTop f) target) (K : Go Γ n0 Q T' f') : Go Γ n0 Q T f := by
  obtain ⟨s₂, o, h1, r⟩ := K
  exact ⟨s₂, o, k _ h1, r⟩
theorem Go.mono {Q' : Option Value → Heap → List Addr → Prop} {f : JFrame} (K : Go Γ n0 Q T f) (q : ∀ v h sf, Q v h sf → Q' v h sf) : Go Γ n0 Q' T f := by
  obtain ⟨s₂, o, h1, h2, h3, v, L, h4, ⟨⟨sf', h5, h5'⟩, h6⟩, h7⟩ := K
  exact ⟨s₂, o, h1, h2, h3, v, L, h4, ⟨⟨sf', q _ _ _ h5, h5'⟩, h6⟩, h7⟩
theorem W.more {C' S' : Nat} (X : W Γ n0 T h C S sf) (hc : C ≤ C') (hs : S ≤ S') : W Γ n0 T h C' S' sf := by
  obtain ⟨L, v, k, X, r⟩ := X; exact ⟨L, v, k, X.more hc hs, r⟩
theorem MetW.mono {y : MethodName} {ws : List Cond} {as' : Array Value} {Q' : Option Value → Heap → List Addr → Prop} (M : MetW Z EL sf y bytes maxl ret ws rm as' h n0 Q) (q : ∀ v h sf, Q v h sf → Q' v h sf) : MetW Z EL sf y bytes maxl ret ws rm as' h n0 Q' := by
  intro l p e h1 h2 h3 s m args below hf happ hP hK
  obtain ⟨n, o, a1, a2, a3, v, L, b1, ⟨⟨sf', b2, b2'⟩, b3⟩, b4⟩ := M l p e h1 h2 h3 s m args below hf happ hP hK
  exact ⟨n, o, a1, a2, a3, v, L, b1, ⟨⟨sf', q _ _ _ b2, b2'⟩, b3⟩, b4⟩
/-! ### returns -/
theorem k_retv (G : Ctx Γ Z EL own bytes maxl ret nm rm hs0) (X : W Γ n0 T h C S sf) (hd : decode bytes pc = .ok (.return_, 1)) (hr : ret = none) (q : Q none h sf) (hC : C ≤ rm.cells) (hS : S ≤ rm.slots) : Go Γ n0 Q T (mkF Γ.m pc Ls []) := by
  obtain ⟨hx, hZ, hown, hby, hml, hret, hnm, hlk, hR, hsH, hzz, hel, hew⟩ := G
  subst hzz hel
  obtain ⟨aw, hew⟩ := hew
  obtain ⟨L, vm0, k0, X, e, N, hSi, hk, HD⟩ := X
  subst e
  have e : T.heap = T.heap := rfl
  have AT := CHv.at X (State.Warmed39.trans hZ hSi.1) hew HD.1.1
  obtain ⟨fs, hr', hrun, hended, hE⟩ := X.leaveW hSi (by rw [e]; exact hk) (v := none) (fun _ => rfl) hlk
  subst hr
  refine ⟨_, _, ?_, hrun, hended, none, L, rfl, ⟨⟨sf, ?_, fun x hx' => ⟨(HD.2 x hx').1, AT.safe (HD.2 x hx').1 (HD.2 x hx').2⟩⟩, N⟩, HD.1.trans AT, hE.1, hE.2.1, hE.2.2.1, hE.2.2.2.mono (hR ▸ hC) (hR ▸ hS)⟩
  · exact X.returnOut hx hret (hb hby hd) hr'
  · exact q
theorem k_ret {w : Value} {t : FieldType} {i : Instr} {rest : List Value} (G : Ctx Γ Z EL own bytes maxl ret nm rm hs0) (X : W Γ n0 T h C S sf) (hd : decode bytes pc = .ok (i, 1)) (hr : ret = some t) (hn : narrow t w = w)
    (hi : (i = .ireturn ∧ (t = .int ∨ t = .boolean ∨ t = .byte ∨ t = .char ∨ t = .short) ∧ ∃ z, w = .int z) ∨ (i = .lreturn ∧ t = .long ∧ ∃ z, w = .long z) ∨ (i = .dreturn ∧ t = .double ∧ ∃ z, w = .double z) ∨ (i = .freturn ∧ t = .float ∧ ∃ z, w = .float z) ∨ (i = .areturn ∧ t.isReference = true ∧ w.isRef = true))
    (q : Q (some w) h sf) (hC : C ≤ rm.cells) (hS : S ≤ rm.slots) : Go Γ n0 Q T (mkF Γ.m pc Ls (w :: rest)) := by
  obtain ⟨hx, hZ, hown, hby, hml, hret, hnm, hlk, hR, hsH, hzz, hel, hew⟩ := G
  subst hzz hel
  obtain ⟨aw, hew⟩ := hew
  obtain ⟨L, vm0, k0, X, e, N, hSi, hk, HD⟩ := X
  subst e
  have e : T.heap = T.heap := rfl
  have AT := CHv.at X (State.Warmed39.trans hZ hSi.1) hew HD.1.1
  subst hr
  obtain ⟨fs, hr', hrun, hended, hE⟩ := X.leaveW hSi (by rw [e]; exact hk) (v := some w) (fun h => by rw [hret] at h; cases h) hlk
  refine ⟨_, _, ?_, hrun, hended, some w, L, rfl, ⟨⟨sf, ?_, fun x hx' => ⟨(HD.2 x hx').1, AT.safe (HD.2 x hx').1 (HD.2 x hx').2⟩⟩, N⟩, HD.1.trans AT, hE.1, hE.2.1, hE.2.2.1, hE.2.2.2.mono (hR ▸ hC) (hR ▸ hS)⟩
  · exact retOut X hx hret hn hi (hb hby hd) hr'
  · exact q
theorem k_reti {z : Int32} {rest : List Value} (G : Ctx Γ Z EL own bytes maxl ret nm rm hs0) (X : W Γ n0 T h C S sf) (hd : decode bytes pc = .ok (.ireturn, 1)) (hr : ret = some .int) (q : Q (some (.int z)) h sf) (hC : C ≤ rm.cells) (hS : S ≤ rm.slots) : Go Γ n0 Q T (mkF Γ.m pc Ls (.int z :: rest)) :=
  k_ret G X hd hr rfl (Or.inl ⟨rfl, Or.inl rfl, _, rfl⟩) q hC hS
theorem k_retb {z : Int32} {rest : List Value} {t : FieldType} (G : Ctx Γ Z EL own bytes maxl ret nm rm hs0) (X : W Γ n0 T h C S sf) (hd : decode bytes pc = .ok (.ireturn, 1)) (hr : ret = some t) (ht : t = .int ∨ t = .boolean ∨ t = .byte ∨ t = .char ∨ t = .short) (hn : narrow t (.int z) = .int z) (q : Q (some (.int z)) h sf) (hC : C ≤ rm.cells) (hS : S ≤ rm.slots) : Go Γ n0 Q T (mkF Γ.m pc Ls (.int z :: rest)) :=
  k_ret G X hd hr hn (Or.inl ⟨rfl, ht, _, rfl⟩) q hC hS
theorem k_retl {z : Int64} {rest : List Value} (G : Ctx Γ Z EL own bytes maxl ret nm rm hs0) (X : W Γ n0 T h C S sf) (hd : decode bytes pc = .ok (.lreturn, 1)) (hr : ret = some .long) (q : Q (some (.long z)) h sf) (hC : C ≤ rm.cells) (hS : S ≤ rm.slots) : Go Γ n0 Q T (mkF Γ.m pc Ls (.long z :: rest)) :=
  k_ret G X hd hr rfl (Or.inr (Or.inl ⟨rfl, rfl, _, rfl⟩)) q hC hS
theorem narrow_ref {t : FieldType} {w : Value} (ht : t.isReference = true) : narrow t w = w := by cases t <;> first | (cases ht; done) | (cases w <;> rfl)
theorem k_reta {w : Value} {rest : List Value} {t : FieldType} (G : Ctx Γ Z EL own bytes maxl ret nm rm hs0) (X : W Γ n0 T h C S sf) (hd : decode bytes pc = .ok (.areturn, 1)) (hr : ret = some t) (ht : t.isReference = true) (hv : w.isRef = true) (q : Q (some w) h sf) (hC : C ≤ rm.cells) (hS : S ≤ rm.slots) : Go Γ n0 Q T (mkF Γ.m pc Ls (w :: rest)) :=
  k_ret G X hd hr (narrow_ref ht) (Or.inr (Or.inr (Or.inr (Or.inr ⟨rfl, ht, hv⟩)))) q hC hS
theorem k_iloadN {k : Fin 4} {v : Int32} (G : Ctx Γ Z EL own bytes maxl ret nm rm hs0) (X : W Γ n0 T h C S sf) (hd : decode bytes pc = .ok (.iload_n k, 1)) (hp : pc + 1 = pc') (hl : Ls[k.val]? = some (.val (.int v))) (K : Go Γ n0 Q T (mkF Γ.m pc' Ls (.int v :: st))) : Go Γ n0 Q T (mkF Γ.m pc Ls (st)) := by
  subst hp
  obtain ⟨hx, hZ0, hown0, hby, hml, hret, hnm, hlk, hR, hsH, hzz, hel, hew⟩ := G
  subst hzz hel
  obtain ⟨aw, hew⟩ := hew
  obtain ⟨L, vm0, k0, X, e, N, hS, hk, HD⟩ := X
  have hZ : Γ.Z.Warmed39 (Γ.s.setVm vm0).vm := State.Warmed39.trans hZ0 hS.1
  have hown : (Γ.s.setVm vm0).vm.findClass own = some Γ.m.cls := by rw [show (Γ.s.setVm vm0).vm = vm0 from rfl, hS.1.alike.findClass]; exact hown0
  exact Go.of (fun t k => XS.iloadN X.here hx rfl (hb hby hd) hl k) K
theorem k_iload {k : Nat} {v : Int32} (G : Ctx Γ Z EL own bytes maxl ret nm rm hs0) (X : W Γ n0 T h C S sf) (hd : decode bytes pc = .ok (.iload k, 2)) (hp : pc + 2 = pc') (hl : Ls[k]? = some (.val (.int v))) (K : Go Γ n0 Q T (mkF Γ.m pc' Ls (.int v :: st))) : Go Γ n0 Q T (mkF Γ.m pc Ls (st)) := by
  subst hp
  obtain ⟨hx, hZ0, hown0, hby, hml, hret, hnm, hlk, hR, hsH, hzz, hel, hew⟩ := G
  subst hzz hel
  obtain ⟨aw, hew⟩ := hew
  obtain ⟨L, vm0, k0, X, e, N, hS, hk, HD⟩ := X
  have hZ : Γ.Z.Warmed39 (Γ.s.setVm vm0).vm := State.Warmed39.trans hZ0 hS.1
  have hown : (Γ.s.setVm vm0).vm.findClass own = some Γ.m.cls := by rw [show (Γ.s.setVm vm0).vm = vm0 from rfl, hS.1.alike.findClass]; exact hown0
  exact Go.of (fun t k => XS.iload X.here hx rfl (hb hby hd) hl k) K
theorem k_lloadN {k : Fin 4} {v : Int64} (G : Ctx Γ Z EL own bytes maxl ret nm rm hs0) (X : W Γ n0 T h C S sf) (hd : decode bytes pc = .ok (.lload_n k, 1)) (hp : pc + 1 = pc') (hl : Ls[k.val]? = some (.val (.long v))) (K : Go Γ n0 Q T (mkF Γ.m pc' Ls (.long v :: st))) : Go Γ n0 Q T (mkF Γ.m pc Ls (st)) := by
  subst hp
  obtain ⟨hx, hZ0, hown0, hby, hml, hret, hnm, hlk, hR, hsH, hzz, hel, hew⟩ := G
  subst hzz hel
  obtain ⟨aw, hew⟩ := hew
  obtain ⟨L, vm0, k0, X, e, N, hS, hk, HD⟩ := X
  have hZ : Γ.Z.Warmed39 (Γ.s.setVm vm0).vm := State.Warmed39.trans hZ0 hS.1
  have hown : (Γ.s.setVm vm0).vm.findClass own = some Γ.m.cls := by rw [show (Γ.s.setVm vm0).vm = vm0 from rfl, hS.1.alike.findClass]; exact hown0
  exact Go.of (fun t k => XS.lloadN X.here hx rfl (hb hby hd) hl k) K
theorem k_lload {k : Nat} {v : Int64} (G : Ctx Γ Z EL own bytes maxl ret nm rm hs0) (X : W Γ n0 T h C S sf) (hd : decode bytes pc = .ok (.lload k, 2)) (hp : pc + 2 = pc') (hl : Ls[k]? = some (.val (.long v))) (K : Go Γ n0 Q T (mkF Γ.m pc' Ls (.long v :: st))) : Go Γ n0 Q T (mkF Γ.m pc Ls (st)) := by
  subst hp
  obtain ⟨hx, hZ0, hown0, hby, hml, hret, hnm, hlk, hR, hsH, hzz, hel, hew⟩ := G
  subst hzz hel
  obtain ⟨aw, hew⟩ := hew
  obtain ⟨L, vm0, k0, X, e, N, hS, hk, HD⟩ := X
  have hZ : Γ.Z.Warmed39 (Γ.s.setVm vm0).vm := State.Warmed39.trans hZ0 hS.1
  have hown : (Γ.s.setVm vm0).vm.findClass own = some Γ.m.cls := by rw [show (Γ.s.setVm vm0).vm = vm0 from rfl, hS.1.alike.findClass]; exact hown0
  exact Go.of (fun t k => XS.lload X.here hx rfl (hb hby hd) hl k) K
theorem k_aloadN {k : Fin 4} {v : Value} (G : Ctx Γ Z EL own bytes maxl ret nm rm hs0) (X : W Γ n0 T h C S sf) (hd : decode bytes pc = .ok (.aload_n k, 1)) (hp : pc + 1 = pc') (hl : Ls[k.val]? = some (.val v)) (hv : v.isRef = true) (K : Go Γ n0 Q T (mkF Γ.m pc' Ls (v :: st))) : Go Γ n0 Q T (mkF Γ.m pc Ls (st)) := by
  subst hp
  obtain ⟨hx, hZ0, hown0, hby, hml, hret, hnm, hlk, hR, hsH, hzz, hel, hew⟩ := G
  subst hzz hel
  obtain ⟨aw, hew⟩ := hew
  obtain ⟨L, vm0, k0, X, e, N, hS, hk, HD⟩ := X
  have hZ : Γ.Z.Warmed39 (Γ.s.setVm vm0).vm := State.Warmed39.trans hZ0 hS.1
  have hown : (Γ.s.setVm vm0).vm.findClass own = some Γ.m.cls := by rw [show (Γ.s.setVm vm0).vm = vm0 from rfl, hS.1.alike.findClass]; exact hown0
  exact Go.of (fun t k => XS.aloadN X.here hx rfl (hb hby hd) hl hv k) K
theorem k_aload {k : Nat} {v : Value} (G : Ctx Γ Z EL own bytes maxl ret nm rm hs0) (X : W Γ n0 T h C S sf) (hd : decode bytes pc = .ok (.aload k, 2)) (hp : pc + 2 = pc') (hl : Ls[k]? = some (.val v)) (hv : v.isRef = true) (K : Go Γ n0 Q T (mkF Γ.m pc' Ls (v :: st))) : Go Γ n0 Q T (mkF Γ.m pc Ls (st)) := by
  subst hp
  obtain ⟨hx, hZ0, hown0, hby, hml, hret, hnm, hlk, hR, hsH, hzz, hel, hew⟩ := G
  subst hzz hel
  obtain ⟨aw, hew⟩ := hew
  obtain ⟨L, vm0, k0, X, e, N, hS, hk, HD⟩ := X
  have hZ : Γ.Z.Warmed39 (Γ.s.setVm vm0).vm := State.Warmed39.trans hZ0 hS.1
  have hown : (Γ.s.setVm vm0).vm.findClass own = some Γ.m.cls := by rw [show (Γ.s.setVm vm0).vm = vm0 from rfl, hS.1.alike.findClass]; exact hown0
  exact Go.of (fun t k => XS.aload X.here hx rfl (hb hby hd) hl hv k) K
theorem k_istoreN {k : Fin 4} {v : Int32} {l' : Array Slot} (G : Ctx Γ Z EL own bytes maxl ret nm rm hs0) (X : W Γ n0 T h C S sf) (hd : decode bytes pc = .ok (.istore_n k, 1)) (hp : pc + 1 = pc') (hl : storeLocals Ls k.val (.int v) = some l') (K : Go Γ n0 Q T (mkF Γ.m pc' l' (st))) : Go Γ n0 Q T (mkF Γ.m pc Ls (.int v :: st)) := by
  subst hp
  obtain ⟨hx, hZ0, hown0, hby, hml, hret, hnm, hlk, hR, hsH, hzz, hel, hew⟩ := G
  subst hzz hel
  obtain ⟨aw, hew⟩ := hew
  obtain ⟨L, vm0, k0, X, e, N, hS, hk, HD⟩ := X
  have hZ : Γ.Z.Warmed39 (Γ.s.setVm vm0).vm := State.Warmed39.trans hZ0 hS.1
  have hown : (Γ.s.setVm vm0).vm.findClass own = some Γ.m.cls := by rw [show (Γ.s.setVm vm0).vm = vm0 from rfl, hS.1.alike.findClass]; exact hown0
  exact Go.of (fun t k => XS.istoreN X.here hx rfl (hb hby hd) rfl hl k) K
theorem k_istore {k : Nat} {v : Int32} {l' : Array Slot} (G : Ctx Γ Z EL own bytes maxl ret nm rm hs0) (X : W Γ n0 T h C S sf) (hd : decode bytes pc = .ok (.istore k, 2)) (hp : pc + 2 = pc') (hl : storeLocals Ls k (.int v) = some l') (K : Go Γ n0 Q T (mkF Γ.m pc' l' (st))) : Go Γ n0 Q T (mkF Γ.m pc Ls (.int v :: st)) := by
  subst hp
  obtain ⟨hx, hZ0, hown0, hby, hml, hret, hnm, hlk, hR, hsH, hzz, hel, hew⟩ := G
  subst hzz hel
  obtain ⟨aw, hew⟩ := hew
  obtain ⟨L, vm0, k0, X, e, N, hS, hk, HD⟩ := X
  have hZ : Γ.Z.Warmed39 (Γ.s.setVm vm0).vm := State.Warmed39.trans hZ0 hS.1
  have hown : (Γ.s.setVm vm0).vm.findClass own = some Γ.m.cls := by rw [show (Γ.s.setVm vm0).vm = vm0 from rfl, hS.1.alike.findClass]; exact hown0
  exact Go.of (fun t k => XS.istore X.here hx rfl (hb hby hd) rfl hl k) K
theorem k_lstoreN {k : Fin 4} {v : Int64} {l' : Array Slot} (G : Ctx Γ Z EL own bytes maxl ret nm rm hs0) (X : W Γ n0 T h C S sf) (hd : decode bytes pc = .ok (.lstore_n k, 1)) (hp : pc + 1 = pc') (hl : storeLocals Ls k.val (.long v) = some l') (K : Go Γ n0 Q T (mkF Γ.m pc' l' (st))) : Go Γ n0 Q T (mkF Γ.m pc Ls (.long v :: st)) := by
  subst hp
  obtain ⟨hx, hZ0, hown0, hby, hml, hret, hnm, hlk, hR, hsH, hzz, hel, hew⟩ := G
  subst hzz hel
  obtain ⟨aw, hew⟩ := hew
  obtain ⟨L, vm0, k0, X, e, N, hS, hk, HD⟩ := X
  have hZ : Γ.Z.Warmed39 (Γ.s.setVm vm0).vm := State.Warmed39.trans hZ0 hS.1
  have hown : (Γ.s.setVm vm0).vm.findClass own = some Γ.m.cls := by rw [show (Γ.s.setVm vm0).vm = vm0 from rfl, hS.1.alike.findClass]; exact hown0
  exact Go.of (fun t k => XS.lstoreN X.here hx rfl (hb hby hd) rfl hl k) K
theorem k_lstore {k : Nat} {v : Int64} {l' : Array Slot} (G : Ctx Γ Z EL own bytes maxl ret nm rm hs0) (X : W Γ n0 T h C S sf) (hd : decode bytes pc = .ok (.lstore k, 2)) (hp : pc + 2 = pc') (hl : storeLocals Ls k (.long v) = some l') (K : Go Γ n0 Q T (mkF Γ.m pc' l' (st))) : Go Γ n0 Q T (mkF Γ.m pc Ls (.long v :: st)) := by
  subst hp
  obtain ⟨hx, hZ0, hown0, hby, hml, hret, hnm, hlk, hR, hsH, hzz, hel, hew⟩ := G
  subst hzz hel
  obtain ⟨aw, hew⟩ := hew
  obtain ⟨L, vm0, k0, X, e, N, hS, hk, HD⟩ := X
  have hZ : Γ.Z.Warmed39 (Γ.s.setVm vm0).vm := State.Warmed39.trans hZ0 hS.1
  have hown : (Γ.s.setVm vm0).vm.findClass own = some Γ.m.cls := by rw [show (Γ.s.setVm vm0).vm = vm0 from rfl, hS.1.alike.findClass]; exact hown0
  exact Go.of (fun t k => XS.lstore X.here hx rfl (hb hby hd) rfl hl k) K
theorem k_astoreN {k : Fin 4} {v : Value} {l' : Array Slot} (G : Ctx Γ Z EL own bytes maxl ret nm rm hs0) (X : W Γ n0 T h C S sf) (hd : decode bytes pc = .ok (.astore_n k, 1)) (hp : pc + 1 = pc') (hv : v.isRef = true) (hl : storeLocals Ls k.val v = some l') (K : Go Γ n0 Q T (mkF Γ.m pc' l' (st))) : Go Γ n0 Q T (mkF Γ.m pc Ls (v :: st)) := by
  subst hp
  obtain ⟨hx, hZ0, hown0, hby, hml, hret, hnm, hlk, hR, hsH, hzz, hel, hew⟩ := G
  subst hzz hel
  obtain ⟨aw, hew⟩ := hew
  obtain ⟨L, vm0, k0, X, e, N, hS, hk, HD⟩ := X
  have hZ : Γ.Z.Warmed39 (Γ.s.setVm vm0).vm := State.Warmed39.trans hZ0 hS.1
  have hown : (Γ.s.setVm vm0).vm.findClass own = some Γ.m.cls := by rw [show (Γ.s.setVm vm0).vm = vm0 from rfl, hS.1.alike.findClass]; exact hown0
  exact Go.of (fun t k => XS.astoreN X.here hx rfl (hb hby hd) rfl hv hl k) K
theorem k_astore {k : Nat} {v : Value} {l' : Array Slot} (G : Ctx Γ Z EL own bytes maxl ret nm rm hs0) (X : W Γ n0 T h C S sf) (hd : decode bytes pc = .ok (.astore k, 2)) (hp : pc + 2 = pc') (hv : v.isRef = true) (hl : storeLocals Ls k v = some l') (K : Go Γ n0 Q T (mkF Γ.m pc' l' (st))) : Go Γ n0 Q T (mkF Γ.m pc Ls (v :: st)) := by
  subst hp
  obtain ⟨hx, hZ0, hown0, hby, hml, hret, hnm, hlk, hR, hsH, hzz, hel, hew⟩ := G
  subst hzz hel
  obtain ⟨aw, hew⟩ := hew
  obtain ⟨L, vm0, k0, X, e, N, hS, hk, HD⟩ := X
  have hZ : Γ.Z.Warmed39 (Γ.s.setVm vm0).vm := State.Warmed39.trans hZ0 hS.1
  have hown : (Γ.s.setVm vm0).vm.findClass own = some Γ.m.cls := by rw [show (Γ.s.setVm vm0).vm = vm0 from rfl, hS.1.alike.findClass]; exact hown0
  exact Go.of (fun t k => XS.astore X.here hx rfl (hb hby hd) rfl hv hl k) K
theorem k_iconst {i : Int} {z : Int32} (G : Ctx Γ Z EL own bytes maxl ret nm rm hs0) (X : W Γ n0 T h C S sf) (hd : decode bytes pc = .ok (.iconst i, 1)) (hp : pc + 1 = pc') (hz : Int32.ofInt i = z) (K : Go Γ n0 Q T (mkF Γ.m pc' Ls (.int z :: st))) : Go Γ n0 Q T (mkF Γ.m pc Ls (st)) := by
  subst hp
  obtain ⟨hx, hZ0, hown0, hby, hml, hret, hnm, hlk, hR, hsH, hzz, hel, hew⟩ := G
  subst hzz hel
  obtain ⟨aw, hew⟩ := hew
  obtain ⟨L, vm0, k0, X, e, N, hS, hk, HD⟩ := X
  have hZ : Γ.Z.Warmed39 (Γ.s.setVm vm0).vm := State.Warmed39.trans hZ0 hS.1
  have hown : (Γ.s.setVm vm0).vm.findClass own = some Γ.m.cls := by rw [show (Γ.s.setVm vm0).vm = vm0 from rfl, hS.1.alike.findClass]; exact hown0
  subst hz
  exact Go.of (fun t k => XS.iconst X.here hx rfl (hb hby hd) k) K
theorem k_bipush {i : Int} {z : Int32} (G : Ctx Γ Z EL own bytes maxl ret nm rm hs0) (X : W Γ n0 T h C S sf) (hd : decode bytes pc = .ok (.bipush i, 2)) (hp : pc + 2 = pc') (hz : (Int8.ofInt i).toInt32 = z) (K : Go Γ n0 Q T (mkF Γ.m pc' Ls (.int z :: st))) : Go Γ n0 Q T (mkF Γ.m pc Ls (st)) := by
  subst hp
  obtain ⟨hx, hZ0, hown0, hby, hml, hret, hnm, hlk, hR, hsH, hzz, hel, hew⟩ := G
  subst hzz hel
  obtain ⟨aw, hew⟩ := hew
  obtain ⟨L, vm0, k0, X, e, N, hS, hk, HD⟩ := X
  have hZ : Γ.Z.Warmed39 (Γ.s.setVm vm0).vm := State.Warmed39.trans hZ0 hS.1
  have hown : (Γ.s.setVm vm0).vm.findClass own = some Γ.m.cls := by rw [show (Γ.s.setVm vm0).vm = vm0 from rfl, hS.1.alike.findClass]; exact hown0
  subst hz
  exact Go.of (fun t k => XS.bipush X.here hx rfl (hb hby hd) k) K
theorem k_sipush {i : Int} {z : Int32} (G : Ctx Γ Z EL own bytes maxl ret nm rm hs0) (X : W Γ n0 T h C S sf) (hd : decode bytes pc = .ok (.sipush i, 3)) (hp : pc + 3 = pc') (hz : (Int16.ofInt i).toInt32 = z) (K : Go Γ n0 Q T (mkF Γ.m pc' Ls (.int z :: st))) : Go Γ n0 Q T (mkF Γ.m pc Ls (st)) := by
  subst hp
  obtain ⟨hx, hZ0, hown0, hby, hml, hret, hnm, hlk, hR, hsH, hzz, hel, hew⟩ := G
  subst hzz hel
  obtain ⟨aw, hew⟩ := hew
  obtain ⟨L, vm0, k0, X, e, N, hS, hk, HD⟩ := X
  have hZ : Γ.Z.Warmed39 (Γ.s.setVm vm0).vm := State.Warmed39.trans hZ0 hS.1
  have hown : (Γ.s.setVm vm0).vm.findClass own = some Γ.m.cls := by rw [show (Γ.s.setVm vm0).vm = vm0 from rfl, hS.1.alike.findClass]; exact hown0
  subst hz
  exact Go.of (fun t k => XS.sipush X.here hx rfl (hb hby hd) k) K
theorem k_lconst {i : Fin 2} {z : Int64} (G : Ctx Γ Z EL own bytes maxl ret nm rm hs0) (X : W Γ n0 T h C S sf) (hd : decode bytes pc = .ok (.lconst i, 1)) (hp : pc + 1 = pc') (hz : Int64.ofNat i = z) (K : Go Γ n0 Q T (mkF Γ.m pc' Ls (.long z :: st))) : Go Γ n0 Q T (mkF Γ.m pc Ls (st)) := by
  subst hp
  obtain ⟨hx, hZ0, hown0, hby, hml, hret, hnm, hlk, hR, hsH, hzz, hel, hew⟩ := G
  subst hzz hel
  obtain ⟨aw, hew⟩ := hew
  obtain ⟨L, vm0, k0, X, e, N, hS, hk, HD⟩ := X
  have hZ : Γ.Z.Warmed39 (Γ.s.setVm vm0).vm := State.Warmed39.trans hZ0 hS.1
  have hown : (Γ.s.setVm vm0).vm.findClass own = some Γ.m.cls := by rw [show (Γ.s.setVm vm0).vm = vm0 from rfl, hS.1.alike.findClass]; exact hown0
  subst hz
  exact Go.of (fun t k => XS.lconst X.here hx rfl (hb hby hd) k) K
theorem k_anull  (G : Ctx Γ Z EL own bytes maxl ret nm rm hs0) (X : W Γ n0 T h C S sf) (hd : decode bytes pc = .ok (.aconst_null, 1)) (hp : pc + 1 = pc')  (K : Go Γ n0 Q T (mkF Γ.m pc' Ls (.null :: st))) : Go Γ n0 Q T (mkF Γ.m pc Ls (st)) := by
  subst hp
  obtain ⟨hx, hZ0, hown0, hby, hml, hret, hnm, hlk, hR, hsH, hzz, hel, hew⟩ := G
  subst hzz hel
  obtain ⟨aw, hew⟩ := hew
  obtain ⟨L, vm0, k0, X, e, N, hS, hk, HD⟩ := X
  have hZ : Γ.Z.Warmed39 (Γ.s.setVm vm0).vm := State.Warmed39.trans hZ0 hS.1
  have hown : (Γ.s.setVm vm0).vm.findClass own = some Γ.m.cls := by rw [show (Γ.s.setVm vm0).vm = vm0 from rfl, hS.1.alike.findClass]; exact hown0
  exact Go.of (fun t k => XS.aconstNull X.here hx rfl (hb hby hd) k) K
theorem k_iadd {x y z : Int32} (G : Ctx Γ Z EL own bytes maxl ret nm rm hs0) (X : W Γ n0 T h C S sf) (hd : decode bytes pc = .ok (.iadd, 1)) (hp : pc + 1 = pc') (hz : x + y = z) (K : Go Γ n0 Q T (mkF Γ.m pc' Ls (.int z :: st))) : Go Γ n0 Q T (mkF Γ.m pc Ls (.int y :: .int x :: st)) := by
  subst hp
  obtain ⟨hx, hZ0, hown0, hby, hml, hret, hnm, hlk, hR, hsH, hzz, hel, hew⟩ := G
  subst hzz hel
  obtain ⟨aw, hew⟩ := hew
  obtain ⟨L, vm0, k0, X, e, N, hS, hk, HD⟩ := X
  have hZ : Γ.Z.Warmed39 (Γ.s.setVm vm0).vm := State.Warmed39.trans hZ0 hS.1
  have hown : (Γ.s.setVm vm0).vm.findClass own = some Γ.m.cls := by rw [show (Γ.s.setVm vm0).vm = vm0 from rfl, hS.1.alike.findClass]; exact hown0
  subst hz
  exact Go.of (fun t k => XS.iadd X.here hx rfl (hb hby hd) rfl k) K
theorem k_isub {x y z : Int32} (G : Ctx Γ Z EL own bytes maxl ret nm rm hs0) (X : W Γ n0 T h C S sf) (hd : decode bytes pc = .ok (.isub, 1)) (hp : pc + 1 = pc') (hz : x - y = z) (K : Go Γ n0 Q T (mkF Γ.m pc' Ls (.int z :: st))) : Go Γ n0 Q T (mkF Γ.m pc Ls (.int y :: .int x :: st)) := by
  subst hp
  obtain ⟨hx, hZ0, hown0, hby, hml, hret, hnm, hlk, hR, hsH, hzz, hel, hew⟩ := G
  subst hzz hel
  obtain ⟨aw, hew⟩ := hew
  obtain ⟨L, vm0, k0, X, e, N, hS, hk, HD⟩ := X
  have hZ : Γ.Z.Warmed39 (Γ.s.setVm vm0).vm := State.Warmed39.trans hZ0 hS.1
  have hown : (Γ.s.setVm vm0).vm.findClass own = some Γ.m.cls := by rw [show (Γ.s.setVm vm0).vm = vm0 from rfl, hS.1.alike.findClass]; exact hown0
  subst hz
  exact Go.of (fun t k => XS.isub X.here hx rfl (hb hby hd) rfl k) K
theorem k_imul {x y z : Int32} (G : Ctx Γ Z EL own bytes maxl ret nm rm hs0) (X : W Γ n0 T h C S sf) (hd : decode bytes pc = .ok (.imul, 1)) (hp : pc + 1 = pc') (hz : x * y = z) (K : Go Γ n0 Q T (mkF Γ.m pc' Ls (.int z :: st))) : Go Γ n0 Q T (mkF Γ.m pc Ls (.int y :: .int x :: st)) := by
  subst hp
  obtain ⟨hx, hZ0, hown0, hby, hml, hret, hnm, hlk, hR, hsH, hzz, hel, hew⟩ := G
  subst hzz hel
  obtain ⟨aw, hew⟩ := hew
  obtain ⟨L, vm0, k0, X, e, N, hS, hk, HD⟩ := X
  have hZ : Γ.Z.Warmed39 (Γ.s.setVm vm0).vm := State.Warmed39.trans hZ0 hS.1
  have hown : (Γ.s.setVm vm0).vm.findClass own = some Γ.m.cls := by rw [show (Γ.s.setVm vm0).vm = vm0 from rfl, hS.1.alike.findClass]; exact hown0
  subst hz
  exact Go.of (fun t k => XS.imul X.here hx rfl (hb hby hd) rfl k) K
theorem k_iand {x y z : Int32} (G : Ctx Γ Z EL own bytes maxl ret nm rm hs0) (X : W Γ n0 T h C S sf) (hd : decode bytes pc = .ok (.iand, 1)) (hp : pc + 1 = pc') (hz : x &&& y = z) (K : Go Γ n0 Q T (mkF Γ.m pc' Ls (.int z :: st))) : Go Γ n0 Q T (mkF Γ.m pc Ls (.int y :: .int x :: st)) := by
  subst hp
  obtain ⟨hx, hZ0, hown0, hby, hml, hret, hnm, hlk, hR, hsH, hzz, hel, hew⟩ := G
  subst hzz hel
  obtain ⟨aw, hew⟩ := hew
  obtain ⟨L, vm0, k0, X, e, N, hS, hk, HD⟩ := X
  have hZ : Γ.Z.Warmed39 (Γ.s.setVm vm0).vm := State.Warmed39.trans hZ0 hS.1
  have hown : (Γ.s.setVm vm0).vm.findClass own = some Γ.m.cls := by rw [show (Γ.s.setVm vm0).vm = vm0 from rfl, hS.1.alike.findClass]; exact hown0
  subst hz
  exact Go.of (fun t k => XS.iand X.here hx rfl (hb hby hd) rfl k) K
theorem k_ior {x y z : Int32} (G : Ctx Γ Z EL own bytes maxl ret nm rm hs0) (X : W Γ n0 T h C S sf) (hd : decode bytes pc = .ok (.ior, 1)) (hp : pc + 1 = pc') (hz : x ||| y = z) (K : Go Γ n0 Q T (mkF Γ.m pc' Ls (.int z :: st))) : Go Γ n0 Q T (mkF Γ.m pc Ls (.int y :: .int x :: st)) := by
  subst hp
  obtain ⟨hx, hZ0, hown0, hby, hml, hret, hnm, hlk, hR, hsH, hzz, hel, hew⟩ := G
  subst hzz hel
  obtain ⟨aw, hew⟩ := hew
  obtain ⟨L, vm0, k0, X, e, N, hS, hk, HD⟩ := X
  have hZ : Γ.Z.Warmed39 (Γ.s.setVm vm0).vm := State.Warmed39.trans hZ0 hS.1
  have hown : (Γ.s.setVm vm0).vm.findClass own = some Γ.m.cls := by rw [show (Γ.s.setVm vm0).vm = vm0 from rfl, hS.1.alike.findClass]; exact hown0
  subst hz
  exact Go.of (fun t k => XS.ior X.here hx rfl (hb hby hd) rfl k) K
theorem k_ixor {x y z : Int32} (G : Ctx Γ Z EL own bytes maxl ret nm rm hs0) (X : W Γ n0 T h C S sf) (hd : decode bytes pc = .ok (.ixor, 1)) (hp : pc + 1 = pc') (hz : x ^^^ y = z) (K : Go Γ n0 Q T (mkF Γ.m pc' Ls (.int z :: st))) : Go Γ n0 Q T (mkF Γ.m pc Ls (.int y :: .int x :: st)) := by
  subst hp
  obtain ⟨hx, hZ0, hown0, hby, hml, hret, hnm, hlk, hR, hsH, hzz, hel, hew⟩ := G
  subst hzz hel
  obtain ⟨aw, hew⟩ := hew
  obtain ⟨L, vm0, k0, X, e, N, hS, hk, HD⟩ := X
  have hZ : Γ.Z.Warmed39 (Γ.s.setVm vm0).vm := State.Warmed39.trans hZ0 hS.1
  have hown : (Γ.s.setVm vm0).vm.findClass own = some Γ.m.cls := by rw [show (Γ.s.setVm vm0).vm = vm0 from rfl, hS.1.alike.findClass]; exact hown0
  subst hz
  exact Go.of (fun t k => XS.ixor X.here hx rfl (hb hby hd) rfl k) K
theorem k_ishl {x y z : Int32} (G : Ctx Γ Z EL own bytes maxl ret nm rm hs0) (X : W Γ n0 T h C S sf) (hd : decode bytes pc = .ok (.ishl, 1)) (hp : pc + 1 = pc') (hz : x <<< (y &&& 31) = z) (K : Go Γ n0 Q T (mkF Γ.m pc' Ls (.int z :: st))) : Go Γ n0 Q T (mkF Γ.m pc Ls (.int y :: .int x :: st)) := by
  subst hp
  obtain ⟨hx, hZ0, hown0, hby, hml, hret, hnm, hlk, hR, hsH, hzz, hel, hew⟩ := G
  subst hzz hel
  obtain ⟨aw, hew⟩ := hew
  obtain ⟨L, vm0, k0, X, e, N, hS, hk, HD⟩ := X
  have hZ : Γ.Z.Warmed39 (Γ.s.setVm vm0).vm := State.Warmed39.trans hZ0 hS.1
  have hown : (Γ.s.setVm vm0).vm.findClass own = some Γ.m.cls := by rw [show (Γ.s.setVm vm0).vm = vm0 from rfl, hS.1.alike.findClass]; exact hown0
  subst hz
  exact Go.of (fun t k => XS.ishl X.here hx rfl (hb hby hd) rfl k) K
theorem k_ishr {x y z : Int32} (G : Ctx Γ Z EL own bytes maxl ret nm rm hs0) (X : W Γ n0 T h C S sf) (hd : decode bytes pc = .ok (.ishr, 1)) (hp : pc + 1 = pc') (hz : x >>> (y &&& 31) = z) (K : Go Γ n0 Q T (mkF Γ.m pc' Ls (.int z :: st))) : Go Γ n0 Q T (mkF Γ.m pc Ls (.int y :: .int x :: st)) := by
  subst hp
  obtain ⟨hx, hZ0, hown0, hby, hml, hret, hnm, hlk, hR, hsH, hzz, hel, hew⟩ := G
  subst hzz hel
  obtain ⟨aw, hew⟩ := hew
  obtain ⟨L, vm0, k0, X, e, N, hS, hk, HD⟩ := X
  have hZ : Γ.Z.Warmed39 (Γ.s.setVm vm0).vm := State.Warmed39.trans hZ0 hS.1
  have hown : (Γ.s.setVm vm0).vm.findClass own = some Γ.m.cls := by rw [show (Γ.s.setVm vm0).vm = vm0 from rfl, hS.1.alike.findClass]; exact hown0
  subst hz
  exact Go.of (fun t k => XS.ishr X.here hx rfl (hb hby hd) rfl k) K
theorem k_iushr {x y z : Int32} (G : Ctx Γ Z EL own bytes maxl ret nm rm hs0) (X : W Γ n0 T h C S sf) (hd : decode bytes pc = .ok (.iushr, 1)) (hp : pc + 1 = pc') (hz : (x.toUInt32 >>> (y &&& 31).toUInt32).toInt32 = z) (K : Go Γ n0 Q T (mkF Γ.m pc' Ls (.int z :: st))) : Go Γ n0 Q T (mkF Γ.m pc Ls (.int y :: .int x :: st)) := by
  subst hp
  obtain ⟨hx, hZ0, hown0, hby, hml, hret, hnm, hlk, hR, hsH, hzz, hel, hew⟩ := G
  subst hzz hel
  obtain ⟨aw, hew⟩ := hew
  obtain ⟨L, vm0, k0, X, e, N, hS, hk, HD⟩ := X
  have hZ : Γ.Z.Warmed39 (Γ.s.setVm vm0).vm := State.Warmed39.trans hZ0 hS.1
  have hown : (Γ.s.setVm vm0).vm.findClass own = some Γ.m.cls := by rw [show (Γ.s.setVm vm0).vm = vm0 from rfl, hS.1.alike.findClass]; exact hown0
  subst hz
  exact Go.of (fun t k => XS.iushr X.here hx rfl (hb hby hd) rfl k) K
theorem k_ladd {x y z : Int64} (G : Ctx Γ Z EL own bytes maxl ret nm rm hs0) (X : W Γ n0 T h C S sf) (hd : decode bytes pc = .ok (.ladd, 1)) (hp : pc + 1 = pc') (hz : x + y = z) (K : Go Γ n0 Q T (mkF Γ.m pc' Ls (.long z :: st))) : Go Γ n0 Q T (mkF Γ.m pc Ls (.long y :: .long x :: st)) := by
  subst hp
  obtain ⟨hx, hZ0, hown0, hby, hml, hret, hnm, hlk, hR, hsH, hzz, hel, hew⟩ := G
  subst hzz hel
  obtain ⟨aw, hew⟩ := hew
  obtain ⟨L, vm0, k0, X, e, N, hS, hk, HD⟩ := X
  have hZ : Γ.Z.Warmed39 (Γ.s.setVm vm0).vm := State.Warmed39.trans hZ0 hS.1
  have hown : (Γ.s.setVm vm0).vm.findClass own = some Γ.m.cls := by rw [show (Γ.s.setVm vm0).vm = vm0 from rfl, hS.1.alike.findClass]; exact hown0
  subst hz
  exact Go.of (fun t k => XS.ladd X.here hx rfl (hb hby hd) rfl k) K
theorem k_lsub {x y z : Int64} (G : Ctx Γ Z EL own bytes maxl ret nm rm hs0) (X : W Γ n0 T h C S sf) (hd : decode bytes pc = .ok (.lsub, 1)) (hp : pc + 1 = pc') (hz : x - y = z) (K : Go Γ n0 Q T (mkF Γ.m pc' Ls (.long z :: st))) : Go Γ n0 Q T (mkF Γ.m pc Ls (.long y :: .long x :: st)) := by
  subst hp
  obtain ⟨hx, hZ0, hown0, hby, hml, hret, hnm, hlk, hR, hsH, hzz, hel, hew⟩ := G
  subst hzz hel
  obtain ⟨aw, hew⟩ := hew
  obtain ⟨L, vm0, k0, X, e, N, hS, hk, HD⟩ := X
  have hZ : Γ.Z.Warmed39 (Γ.s.setVm vm0).vm := State.Warmed39.trans hZ0 hS.1
  have hown : (Γ.s.setVm vm0).vm.findClass own = some Γ.m.cls := by rw [show (Γ.s.setVm vm0).vm = vm0 from rfl, hS.1.alike.findClass]; exact hown0
  subst hz
  exact Go.of (fun t k => XS.lsub X.here hx rfl (hb hby hd) rfl k) K
theorem k_lmul {x y z : Int64} (G : Ctx Γ Z EL own bytes maxl ret nm rm hs0) (X : W Γ n0 T h C S sf) (hd : decode bytes pc = .ok (.lmul, 1)) (hp : pc + 1 = pc') (hz : x * y = z) (K : Go Γ n0 Q T (mkF Γ.m pc' Ls (.long z :: st))) : Go Γ n0 Q T (mkF Γ.m pc Ls (.long y :: .long x :: st)) := by
  subst hp
  obtain ⟨hx, hZ0, hown0, hby, hml, hret, hnm, hlk, hR, hsH, hzz, hel, hew⟩ := G
  subst hzz hel
  obtain ⟨aw, hew⟩ := hew
  obtain ⟨L, vm0, k0, X, e, N, hS, hk, HD⟩ := X
  have hZ : Γ.Z.Warmed39 (Γ.s.setVm vm0).vm := State.Warmed39.trans hZ0 hS.1
  have hown : (Γ.s.setVm vm0).vm.findClass own = some Γ.m.cls := by rw [show (Γ.s.setVm vm0).vm = vm0 from rfl, hS.1.alike.findClass]; exact hown0
  subst hz
  exact Go.of (fun t k => XS.lmul X.here hx rfl (hb hby hd) rfl k) K
theorem k_land {x y z : Int64} (G : Ctx Γ Z EL own bytes maxl ret nm rm hs0) (X : W Γ n0 T h C S sf) (hd : decode bytes pc = .ok (.land, 1)) (hp : pc + 1 = pc') (hz : x &&& y = z) (K : Go Γ n0 Q T (mkF Γ.m pc' Ls (.long z :: st))) : Go Γ n0 Q T (mkF Γ.m pc Ls (.long y :: .long x :: st)) := by
  subst hp
  obtain ⟨hx, hZ0, hown0, hby, hml, hret, hnm, hlk, hR, hsH, hzz, hel, hew⟩ := G
  subst hzz hel
  obtain ⟨aw, hew⟩ := hew
  obtain ⟨L, vm0, k0, X, e, N, hS, hk, HD⟩ := X
  have hZ : Γ.Z.Warmed39 (Γ.s.setVm vm0).vm := State.Warmed39.trans hZ0 hS.1
  have hown : (Γ.s.setVm vm0).vm.findClass own = some Γ.m.cls := by rw [show (Γ.s.setVm vm0).vm = vm0 from rfl, hS.1.alike.findClass]; exact hown0
  subst hz
  exact Go.of (fun t k => XS.land X.here hx rfl (hb hby hd) rfl k) K
theorem k_lor {x y z : Int64} (G : Ctx Γ Z EL own bytes maxl ret nm rm hs0) (X : W Γ n0 T h C S sf) (hd : decode bytes pc = .ok (.lor, 1)) (hp : pc + 1 = pc') (hz : x ||| y = z) (K : Go Γ n0 Q T (mkF Γ.m pc' Ls (.long z :: st))) : Go Γ n0 Q T (mkF Γ.m pc Ls (.long y :: .long x :: st)) := by
  subst hp
  obtain ⟨hx, hZ0, hown0, hby, hml, hret, hnm, hlk, hR, hsH, hzz, hel, hew⟩ := G
  subst hzz hel
  obtain ⟨aw, hew⟩ := hew
  obtain ⟨L, vm0, k0, X, e, N, hS, hk, HD⟩ := X
  have hZ : Γ.Z.Warmed39 (Γ.s.setVm vm0).vm := State.Warmed39.trans hZ0 hS.1
  have hown : (Γ.s.setVm vm0).vm.findClass own = some Γ.m.cls := by rw [show (Γ.s.setVm vm0).vm = vm0 from rfl, hS.1.alike.findClass]; exact hown0
  subst hz
  exact Go.of (fun t k => XS.lor X.here hx rfl (hb hby hd) rfl k) K
theorem k_lxor {x y z : Int64} (G : Ctx Γ Z EL own bytes maxl ret nm rm hs0) (X : W Γ n0 T h C S sf) (hd : decode bytes pc = .ok (.lxor, 1)) (hp : pc + 1 = pc') (hz : x ^^^ y = z) (K : Go Γ n0 Q T (mkF Γ.m pc' Ls (.long z :: st))) : Go Γ n0 Q T (mkF Γ.m pc Ls (.long y :: .long x :: st)) := by
  subst hp
  obtain ⟨hx, hZ0, hown0, hby, hml, hret, hnm, hlk, hR, hsH, hzz, hel, hew⟩ := G
  subst hzz hel
  obtain ⟨aw, hew⟩ := hew
  obtain ⟨L, vm0, k0, X, e, N, hS, hk, HD⟩ := X
  have hZ : Γ.Z.Warmed39 (Γ.s.setVm vm0).vm := State.Warmed39.trans hZ0 hS.1
  have hown : (Γ.s.setVm vm0).vm.findClass own = some Γ.m.cls := by rw [show (Γ.s.setVm vm0).vm = vm0 from rfl, hS.1.alike.findClass]; exact hown0
  subst hz
  exact Go.of (fun t k => XS.lxor X.here hx rfl (hb hby hd) rfl k) K
theorem k_lshl {x z : Int64} {y : Int32} (G : Ctx Γ Z EL own bytes maxl ret nm rm hs0) (X : W Γ n0 T h C S sf) (hd : decode bytes pc = .ok (.lshl, 1)) (hp : pc + 1 = pc') (hz : x <<< (y &&& 0x3f).toInt64 = z) (K : Go Γ n0 Q T (mkF Γ.m pc' Ls (.long z :: st))) : Go Γ n0 Q T (mkF Γ.m pc Ls (.int y :: .long x :: st)) := by
  subst hp
  obtain ⟨hx, hZ0, hown0, hby, hml, hret, hnm, hlk, hR, hsH, hzz, hel, hew⟩ := G
  subst hzz hel
  obtain ⟨aw, hew⟩ := hew
  obtain ⟨L, vm0, k0, X, e, N, hS, hk, HD⟩ := X
  have hZ : Γ.Z.Warmed39 (Γ.s.setVm vm0).vm := State.Warmed39.trans hZ0 hS.1
  have hown : (Γ.s.setVm vm0).vm.findClass own = some Γ.m.cls := by rw [show (Γ.s.setVm vm0).vm = vm0 from rfl, hS.1.alike.findClass]; exact hown0
  subst hz
  exact Go.of (fun t k => XS.lshl X.here hx rfl (hb hby hd) rfl k) K
theorem k_lshr {x z : Int64} {y : Int32} (G : Ctx Γ Z EL own bytes maxl ret nm rm hs0) (X : W Γ n0 T h C S sf) (hd : decode bytes pc = .ok (.lshr, 1)) (hp : pc + 1 = pc') (hz : x >>> (y &&& 0x3f).toInt64 = z) (K : Go Γ n0 Q T (mkF Γ.m pc' Ls (.long z :: st))) : Go Γ n0 Q T (mkF Γ.m pc Ls (.int y :: .long x :: st)) := by
  subst hp
  obtain ⟨hx, hZ0, hown0, hby, hml, hret, hnm, hlk, hR, hsH, hzz, hel, hew⟩ := G
  subst hzz hel
  obtain ⟨aw, hew⟩ := hew
  obtain ⟨L, vm0, k0, X, e, N, hS, hk, HD⟩ := X
  have hZ : Γ.Z.Warmed39 (Γ.s.setVm vm0).vm := State.Warmed39.trans hZ0 hS.1
  have hown : (Γ.s.setVm vm0).vm.findClass own = some Γ.m.cls := by rw [show (Γ.s.setVm vm0).vm = vm0 from rfl, hS.1.alike.findClass]; exact hown0
  subst hz
  exact Go.of (fun t k => XS.lshr X.here hx rfl (hb hby hd) rfl k) K
theorem k_lushr {x z : Int64} {y : Int32} (G : Ctx Γ Z EL own bytes maxl ret nm rm hs0) (X : W Γ n0 T h C S sf) (hd : decode bytes pc = .ok (.lushr, 1)) (hp : pc + 1 = pc') (hz : (x.toUInt64 >>> (y &&& 0x3f).toInt64.toUInt64).toInt64 = z) (K : Go Γ n0 Q T (mkF Γ.m pc' Ls (.long z :: st))) : Go Γ n0 Q T (mkF Γ.m pc Ls (.int y :: .long x :: st)) := by
  subst hp
  obtain ⟨hx, hZ0, hown0, hby, hml, hret, hnm, hlk, hR, hsH, hzz, hel, hew⟩ := G
  subst hzz hel
  obtain ⟨aw, hew⟩ := hew
  obtain ⟨L, vm0, k0, X, e, N, hS, hk, HD⟩ := X
  have hZ : Γ.Z.Warmed39 (Γ.s.setVm vm0).vm := State.Warmed39.trans hZ0 hS.1
  have hown : (Γ.s.setVm vm0).vm.findClass own = some Γ.m.cls := by rw [show (Γ.s.setVm vm0).vm = vm0 from rfl, hS.1.alike.findClass]; exact hown0
  subst hz
  exact Go.of (fun t k => XS.lushr X.here hx rfl (hb hby hd) rfl k) K
theorem k_idiv {x y z : Int32} (G : Ctx Γ Z EL own bytes maxl ret nm rm hs0) (X : W Γ n0 T h C S sf) (hd : decode bytes pc = .ok (.idiv, 1)) (hp : pc + 1 = pc') (hy : y ≠ 0) (hz : x / y = z) (K : Go Γ n0 Q T (mkF Γ.m pc' Ls (.int z :: st))) : Go Γ n0 Q T (mkF Γ.m pc Ls (.int y :: .int x :: st)) := by
  subst hp
  obtain ⟨hx, hZ0, hown0, hby, hml, hret, hnm, hlk, hR, hsH, hzz, hel, hew⟩ := G
  subst hzz hel
  obtain ⟨aw, hew⟩ := hew
  obtain ⟨L, vm0, k0, X, e, N, hS, hk, HD⟩ := X
  have hZ : Γ.Z.Warmed39 (Γ.s.setVm vm0).vm := State.Warmed39.trans hZ0 hS.1
  have hown : (Γ.s.setVm vm0).vm.findClass own = some Γ.m.cls := by rw [show (Γ.s.setVm vm0).vm = vm0 from rfl, hS.1.alike.findClass]; exact hown0
  subst hz
  exact Go.of (fun t k => XS.idiv X.here hx rfl (hb hby hd) rfl hy k) K
theorem k_irem {x y z : Int32} (G : Ctx Γ Z EL own bytes maxl ret nm rm hs0) (X : W Γ n0 T h C S sf) (hd : decode bytes pc = .ok (.irem, 1)) (hp : pc + 1 = pc') (hy : y ≠ 0) (hz : x % y = z) (K : Go Γ n0 Q T (mkF Γ.m pc' Ls (.int z :: st))) : Go Γ n0 Q T (mkF Γ.m pc Ls (.int y :: .int x :: st)) := by
  subst hp
  obtain ⟨hx, hZ0, hown0, hby, hml, hret, hnm, hlk, hR, hsH, hzz, hel, hew⟩ := G
  subst hzz hel
  obtain ⟨aw, hew⟩ := hew
  obtain ⟨L, vm0, k0, X, e, N, hS, hk, HD⟩ := X
  have hZ : Γ.Z.Warmed39 (Γ.s.setVm vm0).vm := State.Warmed39.trans hZ0 hS.1
  have hown : (Γ.s.setVm vm0).vm.findClass own = some Γ.m.cls := by rw [show (Γ.s.setVm vm0).vm = vm0 from rfl, hS.1.alike.findClass]; exact hown0
  subst hz
  exact Go.of (fun t k => iremM X hx rfl (hb hby hd) rfl hy k) K
theorem k_ldiv {x y z : Int64} (G : Ctx Γ Z EL own bytes maxl ret nm rm hs0) (X : W Γ n0 T h C S sf) (hd : decode bytes pc = .ok (.ldiv, 1)) (hp : pc + 1 = pc') (hy : y ≠ 0) (hz : x / y = z) (K : Go Γ n0 Q T (mkF Γ.m pc' Ls (.long z :: st))) : Go Γ n0 Q T (mkF Γ.m pc Ls (.long y :: .long x :: st)) := by
  subst hp
  obtain ⟨hx, hZ0, hown0, hby, hml, hret, hnm, hlk, hR, hsH, hzz, hel, hew⟩ := G
  subst hzz hel
  obtain ⟨aw, hew⟩ := hew
  obtain ⟨L, vm0, k0, X, e, N, hS, hk, HD⟩ := X
  have hZ : Γ.Z.Warmed39 (Γ.s.setVm vm0).vm := State.Warmed39.trans hZ0 hS.1
  have hown : (Γ.s.setVm vm0).vm.findClass own = some Γ.m.cls := by rw [show (Γ.s.setVm vm0).vm = vm0 from rfl, hS.1.alike.findClass]; exact hown0
  subst hz
  exact Go.of (fun t k => XS.ldiv X.here hx rfl (hb hby hd) rfl hy k) K
theorem k_lrem {x y z : Int64} (G : Ctx Γ Z EL own bytes maxl ret nm rm hs0) (X : W Γ n0 T h C S sf) (hd : decode bytes pc = .ok (.lrem, 1)) (hp : pc + 1 = pc') (hy : y ≠ 0) (hz : x % y = z) (K : Go Γ n0 Q T (mkF Γ.m pc' Ls (.long z :: st))) : Go Γ n0 Q T (mkF Γ.m pc Ls (.long y :: .long x :: st)) := by
  subst hp
  obtain ⟨hx, hZ0, hown0, hby, hml, hret, hnm, hlk, hR, hsH, hzz, hel, hew⟩ := G
  subst hzz hel
  obtain ⟨aw, hew⟩ := hew
  obtain ⟨L, vm0, k0, X, e, N, hS, hk, HD⟩ := X
  have hZ : Γ.Z.Warmed39 (Γ.s.setVm vm0).vm := State.Warmed39.trans hZ0 hS.1
  have hown : (Γ.s.setVm vm0).vm.findClass own = some Γ.m.cls := by rw [show (Γ.s.setVm vm0).vm = vm0 from rfl, hS.1.alike.findClass]; exact hown0
  subst hz
  rw [← lrem_mod] at K
  exact Go.of (fun t k => XS.lrem X.here hx rfl (hb hby hd) rfl hy k) K
theorem k_lcmp {x y : Int64} {z : Int32} (G : Ctx Γ Z EL own bytes maxl ret nm rm hs0) (X : W Γ n0 T h C S sf) (hd : decode bytes pc = .ok (.lcmp, 1)) (hp : pc + 1 = pc') (hz : (if x > y then (1 : Int32) else if x = y then 0 else -1) = z) (K : Go Γ n0 Q T (mkF Γ.m pc' Ls (.int z :: st))) : Go Γ n0 Q T (mkF Γ.m pc Ls (.long y :: .long x :: st)) := by
  subst hp
  obtain ⟨hx, hZ0, hown0, hby, hml, hret, hnm, hlk, hR, hsH, hzz, hel, hew⟩ := G
  subst hzz hel
  obtain ⟨aw, hew⟩ := hew
  obtain ⟨L, vm0, k0, X, e, N, hS, hk, HD⟩ := X
  have hZ : Γ.Z.Warmed39 (Γ.s.setVm vm0).vm := State.Warmed39.trans hZ0 hS.1
  have hown : (Γ.s.setVm vm0).vm.findClass own = some Γ.m.cls := by rw [show (Γ.s.setVm vm0).vm = vm0 from rfl, hS.1.alike.findClass]; exact hown0
  subst hz
  exact Go.of (fun t k => XS.lcmp X.here hx rfl (hb hby hd) rfl k) K
theorem k_ineg {x : Int32} {z : Int32} (G : Ctx Γ Z EL own bytes maxl ret nm rm hs0) (X : W Γ n0 T h C S sf) (hd : decode bytes pc = .ok (.ineg, 1)) (hp : pc + 1 = pc') (hz : -x = z) (K : Go Γ n0 Q T (mkF Γ.m pc' Ls (.int z :: st))) : Go Γ n0 Q T (mkF Γ.m pc Ls (.int x :: st)) := by
  subst hp
  obtain ⟨hx, hZ0, hown0, hby, hml, hret, hnm, hlk, hR, hsH, hzz, hel, hew⟩ := G
  subst hzz hel
  obtain ⟨aw, hew⟩ := hew
  obtain ⟨L, vm0, k0, X, e, N, hS, hk, HD⟩ := X
  have hZ : Γ.Z.Warmed39 (Γ.s.setVm vm0).vm := State.Warmed39.trans hZ0 hS.1
  have hown : (Γ.s.setVm vm0).vm.findClass own = some Γ.m.cls := by rw [show (Γ.s.setVm vm0).vm = vm0 from rfl, hS.1.alike.findClass]; exact hown0
  subst hz
  exact Go.of (fun t k => XS.ineg X.here hx rfl (hb hby hd) rfl k) K
theorem k_lneg {x : Int64} {z : Int64} (G : Ctx Γ Z EL own bytes maxl ret nm rm hs0) (X : W Γ n0 T h C S sf) (hd : decode bytes pc = .ok (.lneg, 1)) (hp : pc + 1 = pc') (hz : -x = z) (K : Go Γ n0 Q T (mkF Γ.m pc' Ls (.long z :: st))) : Go Γ n0 Q T (mkF Γ.m pc Ls (.long x :: st)) := by
  subst hp
  obtain ⟨hx, hZ0, hown0, hby, hml, hret, hnm, hlk, hR, hsH, hzz, hel, hew⟩ := G
  subst hzz hel
  obtain ⟨aw, hew⟩ := hew
  obtain ⟨L, vm0, k0, X, e, N, hS, hk, HD⟩ := X
  have hZ : Γ.Z.Warmed39 (Γ.s.setVm vm0).vm := State.Warmed39.trans hZ0 hS.1
  have hown : (Γ.s.setVm vm0).vm.findClass own = some Γ.m.cls := by rw [show (Γ.s.setVm vm0).vm = vm0 from rfl, hS.1.alike.findClass]; exact hown0
  subst hz
  exact Go.of (fun t k => XS.lneg X.here hx rfl (hb hby hd) rfl k) K
theorem k_i2l {x : Int32} {z : Int64} (G : Ctx Γ Z EL own bytes maxl ret nm rm hs0) (X : W Γ n0 T h C S sf) (hd : decode bytes pc = .ok (.i2l, 1)) (hp : pc + 1 = pc') (hz : x.toInt64 = z) (K : Go Γ n0 Q T (mkF Γ.m pc' Ls (.long z :: st))) : Go Γ n0 Q T (mkF Γ.m pc Ls (.int x :: st)) := by
  subst hp
  obtain ⟨hx, hZ0, hown0, hby, hml, hret, hnm, hlk, hR, hsH, hzz, hel, hew⟩ := G
  subst hzz hel
  obtain ⟨aw, hew⟩ := hew
  obtain ⟨L, vm0, k0, X, e, N, hS, hk, HD⟩ := X
  have hZ : Γ.Z.Warmed39 (Γ.s.setVm vm0).vm := State.Warmed39.trans hZ0 hS.1
  have hown : (Γ.s.setVm vm0).vm.findClass own = some Γ.m.cls := by rw [show (Γ.s.setVm vm0).vm = vm0 from rfl, hS.1.alike.findClass]; exact hown0
  subst hz
  exact Go.of (fun t k => XS.i2l X.here hx rfl (hb hby hd) rfl k) K
theorem k_l2i {x : Int64} {z : Int32} (G : Ctx Γ Z EL own bytes maxl ret nm rm hs0) (X : W Γ n0 T h C S sf) (hd : decode bytes pc = .ok (.l2i, 1)) (hp : pc + 1 = pc') (hz : x.toInt32 = z) (K : Go Γ n0 Q T (mkF Γ.m pc' Ls (.int z :: st))) : Go Γ n0 Q T (mkF Γ.m pc Ls (.long x :: st)) := by
  subst hp
  obtain ⟨hx, hZ0, hown0, hby, hml, hret, hnm, hlk, hR, hsH, hzz, hel, hew⟩ := G
  subst hzz hel
  obtain ⟨aw, hew⟩ := hew
  obtain ⟨L, vm0, k0, X, e, N, hS, hk, HD⟩ := X
  have hZ : Γ.Z.Warmed39 (Γ.s.setVm vm0).vm := State.Warmed39.trans hZ0 hS.1
  have hown : (Γ.s.setVm vm0).vm.findClass own = some Γ.m.cls := by rw [show (Γ.s.setVm vm0).vm = vm0 from rfl, hS.1.alike.findClass]; exact hown0
  subst hz
  exact Go.of (fun t k => XS.l2i X.here hx rfl (hb hby hd) rfl k) K
theorem k_i2b {x : Int32} {z : Int32} (G : Ctx Γ Z EL own bytes maxl ret nm rm hs0) (X : W Γ n0 T h C S sf) (hd : decode bytes pc = .ok (.i2b, 1)) (hp : pc + 1 = pc') (hz : x.toInt8.toInt32 = z) (K : Go Γ n0 Q T (mkF Γ.m pc' Ls (.int z :: st))) : Go Γ n0 Q T (mkF Γ.m pc Ls (.int x :: st)) := by
  subst hp
  obtain ⟨hx, hZ0, hown0, hby, hml, hret, hnm, hlk, hR, hsH, hzz, hel, hew⟩ := G
  subst hzz hel
  obtain ⟨aw, hew⟩ := hew
  obtain ⟨L, vm0, k0, X, e, N, hS, hk, HD⟩ := X
  have hZ : Γ.Z.Warmed39 (Γ.s.setVm vm0).vm := State.Warmed39.trans hZ0 hS.1
  have hown : (Γ.s.setVm vm0).vm.findClass own = some Γ.m.cls := by rw [show (Γ.s.setVm vm0).vm = vm0 from rfl, hS.1.alike.findClass]; exact hown0
  subst hz
  exact Go.of (fun t k => XS.i2b X.here hx rfl (hb hby hd) rfl k) K
theorem k_i2s {x : Int32} {z : Int32} (G : Ctx Γ Z EL own bytes maxl ret nm rm hs0) (X : W Γ n0 T h C S sf) (hd : decode bytes pc = .ok (.i2s, 1)) (hp : pc + 1 = pc') (hz : x.toInt16.toInt32 = z) (K : Go Γ n0 Q T (mkF Γ.m pc' Ls (.int z :: st))) : Go Γ n0 Q T (mkF Γ.m pc Ls (.int x :: st)) := by
  subst hp
  obtain ⟨hx, hZ0, hown0, hby, hml, hret, hnm, hlk, hR, hsH, hzz, hel, hew⟩ := G
  subst hzz hel
  obtain ⟨aw, hew⟩ := hew
  obtain ⟨L, vm0, k0, X, e, N, hS, hk, HD⟩ := X
  have hZ : Γ.Z.Warmed39 (Γ.s.setVm vm0).vm := State.Warmed39.trans hZ0 hS.1
  have hown : (Γ.s.setVm vm0).vm.findClass own = some Γ.m.cls := by rw [show (Γ.s.setVm vm0).vm = vm0 from rfl, hS.1.alike.findClass]; exact hown0
  subst hz
  exact Go.of (fun t k => XS.i2s X.here hx rfl (hb hby hd) rfl k) K
theorem k_i2c {x : Int32} {z : Int32} (G : Ctx Γ Z EL own bytes maxl ret nm rm hs0) (X : W Γ n0 T h C S sf) (hd : decode bytes pc = .ok (.i2c, 1)) (hp : pc + 1 = pc') (hz : x.toUInt32.toUInt16.toUInt32.toInt32 = z) (K : Go Γ n0 Q T (mkF Γ.m pc' Ls (.int z :: st))) : Go Γ n0 Q T (mkF Γ.m pc Ls (.int x :: st)) := by
  subst hp
  obtain ⟨hx, hZ0, hown0, hby, hml, hret, hnm, hlk, hR, hsH, hzz, hel, hew⟩ := G
  subst hzz hel
  obtain ⟨aw, hew⟩ := hew
  obtain ⟨L, vm0, k0, X, e, N, hS, hk, HD⟩ := X
  have hZ : Γ.Z.Warmed39 (Γ.s.setVm vm0).vm := State.Warmed39.trans hZ0 hS.1
  have hown : (Γ.s.setVm vm0).vm.findClass own = some Γ.m.cls := by rw [show (Γ.s.setVm vm0).vm = vm0 from rfl, hS.1.alike.findClass]; exact hown0
  subst hz
  exact Go.of (fun t k => XS.i2c X.here hx rfl (hb hby hd) rfl k) K
theorem k_pop {x : Value} (G : Ctx Γ Z EL own bytes maxl ret nm rm hs0) (X : W Γ n0 T h C S sf) (hd : decode bytes pc = .ok (.pop, 1)) (hp : pc + 1 = pc') (hc : x.category = 1) (K : Go Γ n0 Q T (mkF Γ.m pc' Ls (st))) : Go Γ n0 Q T (mkF Γ.m pc Ls (x :: st)) := by
  subst hp
  obtain ⟨hx, hZ0, hown0, hby, hml, hret, hnm, hlk, hR, hsH, hzz, hel, hew⟩ := G
  subst hzz hel
  obtain ⟨aw, hew⟩ := hew
  obtain ⟨L, vm0, k0, X, e, N, hS, hk, HD⟩ := X
  have hZ : Γ.Z.Warmed39 (Γ.s.setVm vm0).vm := State.Warmed39.trans hZ0 hS.1
  have hown : (Γ.s.setVm vm0).vm.findClass own = some Γ.m.cls := by rw [show (Γ.s.setVm vm0).vm = vm0 from rfl, hS.1.alike.findClass]; exact hown0
  exact Go.of (fun t k => XS.pop X.here hx rfl (hb hby hd) rfl hc k) K
theorem k_dup {x : Value} (G : Ctx Γ Z EL own bytes maxl ret nm rm hs0) (X : W Γ n0 T h C S sf) (hd : decode bytes pc = .ok (.dup, 1)) (hp : pc + 1 = pc') (hc : x.category = 1) (K : Go Γ n0 Q T (mkF Γ.m pc' Ls (x :: x :: st))) : Go Γ n0 Q T (mkF Γ.m pc Ls (x :: st)) := by
  subst hp
  obtain ⟨hx, hZ0, hown0, hby, hml, hret, hnm, hlk, hR, hsH, hzz, hel, hew⟩ := G
  subst hzz hel
  obtain ⟨aw, hew⟩ := hew
  obtain ⟨L, vm0, k0, X, e, N, hS, hk, HD⟩ := X
  have hZ : Γ.Z.Warmed39 (Γ.s.setVm vm0).vm := State.Warmed39.trans hZ0 hS.1
  have hown : (Γ.s.setVm vm0).vm.findClass own = some Γ.m.cls := by rw [show (Γ.s.setVm vm0).vm = vm0 from rfl, hS.1.alike.findClass]; exact hown0
  exact Go.of (fun t k => XS.dup X.here hx rfl (hb hby hd) rfl hc k) K
theorem k_dupx1 {x y : Value} (G : Ctx Γ Z EL own bytes maxl ret nm rm hs0) (X : W Γ n0 T h C S sf) (hd : decode bytes pc = .ok (.dup_x1, 1)) (hp : pc + 1 = pc') (hc : x.category = 1) (hc' : y.category = 1) (K : Go Γ n0 Q T (mkF Γ.m pc' Ls (x :: y :: x :: st))) : Go Γ n0 Q T (mkF Γ.m pc Ls (x :: y :: st)) := by
  subst hp
  obtain ⟨hx, hZ0, hown0, hby, hml, hret, hnm, hlk, hR, hsH, hzz, hel, hew⟩ := G
  subst hzz hel
  obtain ⟨aw, hew⟩ := hew
  obtain ⟨L, vm0, k0, X, e, N, hS, hk, HD⟩ := X
  have hZ : Γ.Z.Warmed39 (Γ.s.setVm vm0).vm := State.Warmed39.trans hZ0 hS.1
  have hown : (Γ.s.setVm vm0).vm.findClass own = some Γ.m.cls := by rw [show (Γ.s.setVm vm0).vm = vm0 from rfl, hS.1.alike.findClass]; exact hown0
  exact Go.of (fun t k => XS.dupX1 X.here hx rfl (hb hby hd) rfl hc hc' k) K
theorem k_dup2 {x y : Value} (G : Ctx Γ Z EL own bytes maxl ret nm rm hs0) (X : W Γ n0 T h C S sf) (hd : decode bytes pc = .ok (.dup2, 1)) (hp : pc + 1 = pc') (hc : x.category = 1) (hc' : y.category = 1) (K : Go Γ n0 Q T (mkF Γ.m pc' Ls (x :: y :: x :: y :: st))) : Go Γ n0 Q T (mkF Γ.m pc Ls (x :: y :: st)) := by
  subst hp
  obtain ⟨hx, hZ0, hown0, hby, hml, hret, hnm, hlk, hR, hsH, hzz, hel, hew⟩ := G
  subst hzz hel
  obtain ⟨aw, hew⟩ := hew
  obtain ⟨L, vm0, k0, X, e, N, hS, hk, HD⟩ := X
  have hZ : Γ.Z.Warmed39 (Γ.s.setVm vm0).vm := State.Warmed39.trans hZ0 hS.1
  have hown : (Γ.s.setVm vm0).vm.findClass own = some Γ.m.cls := by rw [show (Γ.s.setVm vm0).vm = vm0 from rfl, hS.1.alike.findClass]; exact hown0
  exact Go.of (fun t k => XT.dup2 X.here hx rfl (hb hby hd) rfl hc hc' k) K
theorem k_dup2l {x : Int64} (G : Ctx Γ Z EL own bytes maxl ret nm rm hs0) (X : W Γ n0 T h C S sf) (hd : decode bytes pc = .ok (.dup2, 1)) (hp : pc + 1 = pc')  (K : Go Γ n0 Q T (mkF Γ.m pc' Ls (.long x :: .long x :: st))) : Go Γ n0 Q T (mkF Γ.m pc Ls (.long x :: st)) := by
  subst hp
  obtain ⟨hx, hZ0, hown0, hby, hml, hret, hnm, hlk, hR, hsH, hzz, hel, hew⟩ := G
  subst hzz hel
  obtain ⟨aw, hew⟩ := hew
  obtain ⟨L, vm0, k0, X, e, N, hS, hk, HD⟩ := X
  have hZ : Γ.Z.Warmed39 (Γ.s.setVm vm0).vm := State.Warmed39.trans hZ0 hS.1
  have hown : (Γ.s.setVm vm0).vm.findClass own = some Γ.m.cls := by rw [show (Γ.s.setVm vm0).vm = vm0 from rfl, hS.1.alike.findClass]; exact hown0
  exact Go.of (fun t k => XT.dup2L X.here hx rfl (hb hby hd) rfl k) K
theorem k_iinc {k : Nat} {cst : Int} {x z : Int32} {l' : Array Slot} (G : Ctx Γ Z EL own bytes maxl ret nm rm hs0) (X : W Γ n0 T h C S sf) (hd : decode bytes pc = .ok (.iinc k cst, 3)) (hp : pc + 3 = pc') (hl : Ls[k]? = some (.val (.int x))) (hz : x + Int32.ofInt cst = z) (hl' : storeLocals Ls k (.int z) = some l') (K : Go Γ n0 Q T (mkF Γ.m pc' l' (st))) : Go Γ n0 Q T (mkF Γ.m pc Ls (st)) := by
  subst hp
  obtain ⟨hx, hZ0, hown0, hby, hml, hret, hnm, hlk, hR, hsH, hzz, hel, hew⟩ := G
  subst hzz hel
  obtain ⟨aw, hew⟩ := hew
  obtain ⟨L, vm0, k0, X, e, N, hS, hk, HD⟩ := X
  have hZ : Γ.Z.Warmed39 (Γ.s.setVm vm0).vm := State.Warmed39.trans hZ0 hS.1
  have hown : (Γ.s.setVm vm0).vm.findClass own = some Γ.m.cls := by rw [show (Γ.s.setVm vm0).vm = vm0 from rfl, hS.1.alike.findClass]; exact hown0
  subst hz
  exact Go.of (fun t k => XS.iinc X.here hx rfl (hb hby hd) hl hl' k) K
theorem k_istoreS {k : Nat} {v : Int32} {o : Slot} {l' : Array Slot} (G : Ctx Γ Z EL own bytes maxl ret nm rm hs0) (X : W Γ n0 T h C S sf) (hd : decode bytes pc = .ok (.istore k, 2)) (hp : pc + 2 = pc') (hold : Ls[k]? = some o) (ho : o = .unset ∨ ∃ w, o = .val w ∧ w.category = 1) (hl : Ls.setIfInBounds k (.val (.int v)) = l') (K : Go Γ n0 Q T (mkF Γ.m pc' l' (st))) : Go Γ n0 Q T (mkF Γ.m pc Ls (.int v :: st)) := by
  subst hp
  obtain ⟨hx, hZ0, hown0, hby, hml, hret, hnm, hlk, hR, hsH, hzz, hel, hew⟩ := G
  subst hzz hel
  obtain ⟨aw, hew⟩ := hew
  obtain ⟨L, vm0, k0, X, e, N, hS, hk, HD⟩ := X
  have hZ : Γ.Z.Warmed39 (Γ.s.setVm vm0).vm := State.Warmed39.trans hZ0 hS.1
  have hown : (Γ.s.setVm vm0).vm.findClass own = some Γ.m.cls := by rw [show (Γ.s.setVm vm0).vm = vm0 from rfl, hS.1.alike.findClass]; exact hown0
  subst hl
  exact Go.of (fun t k => XS.istoreS X.here hx rfl (hb hby hd) rfl hold ho k) K
theorem k_istoreNS {k : Fin 4} {v : Int32} {o : Slot} {l' : Array Slot} (G : Ctx Γ Z EL own bytes maxl ret nm rm hs0) (X : W Γ n0 T h C S sf) (hd : decode bytes pc = .ok (.istore_n k, 1)) (hp : pc + 1 = pc') (hold : Ls[k.val]? = some o) (ho : o = .unset ∨ ∃ w, o = .val w ∧ w.category = 1) (hl : Ls.setIfInBounds k.val (.val (.int v)) = l') (K : Go Γ n0 Q T (mkF Γ.m pc' l' (st))) : Go Γ n0 Q T (mkF Γ.m pc Ls (.int v :: st)) := by
  subst hp
  obtain ⟨hx, hZ0, hown0, hby, hml, hret, hnm, hlk, hR, hsH, hzz, hel, hew⟩ := G
  subst hzz hel
  obtain ⟨aw, hew⟩ := hew
  obtain ⟨L, vm0, k0, X, e, N, hS, hk, HD⟩ := X
  have hZ : Γ.Z.Warmed39 (Γ.s.setVm vm0).vm := State.Warmed39.trans hZ0 hS.1
  have hown : (Γ.s.setVm vm0).vm.findClass own = some Γ.m.cls := by rw [show (Γ.s.setVm vm0).vm = vm0 from rfl, hS.1.alike.findClass]; exact hown0
  subst hl
  exact Go.of (fun t k => XS.istoreNS X.here hx rfl (hb hby hd) rfl hold ho k) K
theorem k_astoreS {k : Nat} {v : Value} {o : Slot} {l' : Array Slot} (G : Ctx Γ Z EL own bytes maxl ret nm rm hs0) (X : W Γ n0 T h C S sf) (hd : decode bytes pc = .ok (.astore k, 2)) (hp : pc + 2 = pc') (hv : v.isRef = true) (hold : Ls[k]? = some o) (ho : o = .unset ∨ ∃ w, o = .val w ∧ w.category = 1) (hl : Ls.setIfInBounds k (.val v) = l') (K : Go Γ n0 Q T (mkF Γ.m pc' l' (st))) : Go Γ n0 Q T (mkF Γ.m pc Ls (v :: st)) := by
  subst hp
  obtain ⟨hx, hZ0, hown0, hby, hml, hret, hnm, hlk, hR, hsH, hzz, hel, hew⟩ := G
  subst hzz hel
  obtain ⟨aw, hew⟩ := hew
  obtain ⟨L, vm0, k0, X, e, N, hS, hk, HD⟩ := X
  have hZ : Γ.Z.Warmed39 (Γ.s.setVm vm0).vm := State.Warmed39.trans hZ0 hS.1
  have hown : (Γ.s.setVm vm0).vm.findClass own = some Γ.m.cls := by rw [show (Γ.s.setVm vm0).vm = vm0 from rfl, hS.1.alike.findClass]; exact hown0
  subst hl
  exact Go.of (fun t k => XS.astoreS X.here hx rfl (hb hby hd) rfl hv (by cases v <;> first | rfl | (simp [Value.isRef] at hv)) hold ho k) K
theorem k_astoreNS {k : Fin 4} {v : Value} {o : Slot} {l' : Array Slot} (G : Ctx Γ Z EL own bytes maxl ret nm rm hs0) (X : W Γ n0 T h C S sf) (hd : decode bytes pc = .ok (.astore_n k, 1)) (hp : pc + 1 = pc') (hv : v.isRef = true) (hold : Ls[k.val]? = some o) (ho : o = .unset ∨ ∃ w, o = .val w ∧ w.category = 1) (hl : Ls.setIfInBounds k.val (.val v) = l') (K : Go Γ n0 Q T (mkF Γ.m pc' l' (st))) : Go Γ n0 Q T (mkF Γ.m pc Ls (v :: st)) := by
  subst hp
  obtain ⟨hx, hZ0, hown0, hby, hml, hret, hnm, hlk, hR, hsH, hzz, hel, hew⟩ := G
  subst hzz hel
  obtain ⟨aw, hew⟩ := hew
  obtain ⟨L, vm0, k0, X, e, N, hS, hk, HD⟩ := X
  have hZ : Γ.Z.Warmed39 (Γ.s.setVm vm0).vm := State.Warmed39.trans hZ0 hS.1
  have hown : (Γ.s.setVm vm0).vm.findClass own = some Γ.m.cls := by rw [show (Γ.s.setVm vm0).vm = vm0 from rfl, hS.1.alike.findClass]; exact hown0
  subst hl
  exact Go.of (fun t k => XS.astoreN X.here hx rfl (hb hby hd) rfl hv (XS.store1 hold ho (by cases v <;> first | rfl | (simp [Value.isRef] at hv))) k) K
theorem k_goto {o : Int} (G : Ctx Γ Z EL own bytes maxl ret nm rm hs0) (X : W Γ n0 T h C S sf) (hd : decode bytes pc = .ok (.goto o, 3)) (ho : 0 ≤ (pc : Int) + o) (hp : ((pc : Int) + o).toNat = pc') (K : Go Γ n0 Q T (mkF Γ.m pc' Ls st)) : Go Γ n0 Q T (mkF Γ.m pc Ls st) := by
  obtain ⟨hx, hZ0, hown0, hby, hml, hret, hnm, hlk, hR, hsH, hzz, hel, hew⟩ := G
  subst hzz hel
  obtain ⟨aw, hew⟩ := hew
  obtain ⟨L, vm0, k0, X, e, N, hS, hk, HD⟩ := X
  have hZ : Γ.Z.Warmed39 (Γ.s.setVm vm0).vm := State.Warmed39.trans hZ0 hS.1
  have hown : (Γ.s.setVm vm0).vm.findClass own = some Γ.m.cls := by rw [show (Γ.s.setVm vm0).vm = vm0 from rfl, hS.1.alike.findClass]; exact hown0
  exact Go.of (fun t k => XS.goto X.here hx rfl (pc0 := pc) rfl (hb hby hd) ho hp k) K
theorem z32 : (0 : Int32).toInt = 0 := rfl
theorem hold_eq (x y : Int32) : (if_icmp.holds .eq x y = true → x = y) ∧ (if_icmp.holds .eq x y = false → x ≠ y) := by
  constructor <;> intro q <;> simp only [if_icmp.holds] at q <;> simp [Int32.lt_iff_toInt_lt, Int32.le_iff_toInt_le] at q ⊢ <;> first | exact q | omega
theorem hold0_eq (x : Int32) : (ifCond.holds .eq x = true → x = 0) ∧ (ifCond.holds .eq x = false → x ≠ 0) := by
  have z := z32
  constructor <;> intro q <;> simp only [ifCond.holds] at q <;> simp [Int32.lt_iff_toInt_lt, Int32.le_iff_toInt_le] at q ⊢ <;> first | exact q | omega
theorem k_icmp_eq {o : Int} {x y : Int32} {pc'' : Nat} (G : Ctx Γ Z EL own bytes maxl ret nm rm hs0) (X : W Γ n0 T h C S sf) (hd : decode bytes pc = .ok (.if_icmp .eq o, 3)) (hp : ((pc : Int) + o).toNat = pc') (ho : 0 ≤ (pc : Int) + o) (hp' : pc + 3 = pc'') (K : x = y → Go Γ n0 Q T (mkF Γ.m pc' Ls st)) (K' : x ≠ y → Go Γ n0 Q T (mkF Γ.m pc'' Ls st)) : Go Γ n0 Q T (mkF Γ.m pc Ls (.int y :: .int x :: st)) := by
  subst hp'
  obtain ⟨hx, hZ0, hown0, hby, hml, hret, hnm, hlk, hR, hsH, hzz, hel, hew⟩ := G
  subst hzz hel
  obtain ⟨aw, hew⟩ := hew
  obtain ⟨L, vm0, k0, X, e, N, hS, hk, HD⟩ := X
  have hZ : Γ.Z.Warmed39 (Γ.s.setVm vm0).vm := State.Warmed39.trans hZ0 hS.1
  have hown : (Γ.s.setVm vm0).vm.findClass own = some Γ.m.cls := by rw [show (Γ.s.setVm vm0).vm = vm0 from rfl, hS.1.alike.findClass]; exact hown0
  cases q : if_icmp.holds .eq x y
  · exact Go.of (fun t k => XS.icmpNo X.here hx rfl (hb hby hd) rfl q k) (K' ((hold_eq x y).2 q))
  · exact Go.of (fun t k => XS.icmpYes X.here hx rfl (pc0 := pc) rfl (hb hby hd) rfl q ho hp k) (K ((hold_eq x y).1 q))
theorem k_if_eq {o : Int} {x : Int32} {pc'' : Nat} (G : Ctx Γ Z EL own bytes maxl ret nm rm hs0) (X : W Γ n0 T h C S sf) (hd : decode bytes pc = .ok (.ifCond .eq o, 3)) (hp : ((pc : Int) + o).toNat = pc') (ho : 0 ≤ (pc : Int) + o) (hp' : pc + 3 = pc'') (K : x = 0 → Go Γ n0 Q T (mkF Γ.m pc' Ls st)) (K' : x ≠ 0 → Go Γ n0 Q T (mkF Γ.m pc'' Ls st)) : Go Γ n0 Q T (mkF Γ.m pc Ls (.int x :: st)) := by
  subst hp'
  obtain ⟨hx, hZ0, hown0, hby, hml, hret, hnm, hlk, hR, hsH, hzz, hel, hew⟩ := G
  subst hzz hel
  obtain ⟨aw, hew⟩ := hew
  obtain ⟨L, vm0, k0, X, e, N, hS, hk, HD⟩ := X
  have hZ : Γ.Z.Warmed39 (Γ.s.setVm vm0).vm := State.Warmed39.trans hZ0 hS.1
  have hown : (Γ.s.setVm vm0).vm.findClass own = some Γ.m.cls := by rw [show (Γ.s.setVm vm0).vm = vm0 from rfl, hS.1.alike.findClass]; exact hown0
  cases q : ifCond.holds .eq x
  · exact Go.of (fun t k => XS.ifNo X.here hx rfl (hb hby hd) rfl q k) (K' ((hold0_eq x).2 q))
  · exact Go.of (fun t k => XS.ifYes X.here hx rfl (pc0 := pc) rfl (hb hby hd) rfl q ho hp k) (K ((hold0_eq x).1 q))
theorem hold_ne (x y : Int32) : (if_icmp.holds .ne x y = true → x ≠ y) ∧ (if_icmp.holds .ne x y = false → x = y) := by
  constructor <;> intro q <;> simp only [if_icmp.holds] at q <;> simp [Int32.lt_iff_toInt_lt, Int32.le_iff_toInt_le] at q ⊢ <;> first | exact q | omega
theorem hold0_ne (x : Int32) : (ifCond.holds .ne x = true → x ≠ 0) ∧ (ifCond.holds .ne x = false → x = 0) := by
  have z := z32
  constructor <;> intro q <;> simp only [ifCond.holds] at q <;> simp [Int32.lt_iff_toInt_lt, Int32.le_iff_toInt_le] at q ⊢ <;> first | exact q | omega
theorem k_icmp_ne {o : Int} {x y : Int32} {pc'' : Nat} (G : Ctx Γ Z EL own bytes maxl ret nm rm hs0) (X : W Γ n0 T h C S sf) (hd : decode bytes pc = .ok (.if_icmp .ne o, 3)) (hp : ((pc : Int) + o).toNat = pc') (ho : 0 ≤ (pc : Int) + o) (hp' : pc + 3 = pc'') (K : x ≠ y → Go Γ n0 Q T (mkF Γ.m pc' Ls st)) (K' : x = y → Go Γ n0 Q T (mkF Γ.m pc'' Ls st)) : Go Γ n0 Q T (mkF Γ.m pc Ls (.int y :: .int x :: st)) := by
  subst hp'
  obtain ⟨hx, hZ0, hown0, hby, hml, hret, hnm, hlk, hR, hsH, hzz, hel, hew⟩ := G
  subst hzz hel
  obtain ⟨aw, hew⟩ := hew
  obtain ⟨L, vm0, k0, X, e, N, hS, hk, HD⟩ := X
  have hZ : Γ.Z.Warmed39 (Γ.s.setVm vm0).vm := State.Warmed39.trans hZ0 hS.1
  have hown : (Γ.s.setVm vm0).vm.findClass own = some Γ.m.cls := by rw [show (Γ.s.setVm vm0).vm = vm0 from rfl, hS.1.alike.findClass]; exact hown0
  cases q : if_icmp.holds .ne x y
  · exact Go.of (fun t k => XS.icmpNo X.here hx rfl (hb hby hd) rfl q k) (K' ((hold_ne x y).2 q))
  · exact Go.of (fun t k => XS.icmpYes X.here hx rfl (pc0 := pc) rfl (hb hby hd) rfl q ho hp k) (K ((hold_ne x y).1 q))
theorem k_if_ne {o : Int} {x : Int32} {pc'' : Nat} (G : Ctx Γ Z EL own bytes maxl ret nm rm hs0) (X : W Γ n0 T h C S sf) (hd : decode bytes pc = .ok (.ifCond .ne o, 3)) (hp : ((pc : Int) + o).toNat = pc') (ho : 0 ≤ (pc : Int) + o) (hp' : pc + 3 = pc'') (K : x ≠ 0 → Go Γ n0 Q T (mkF Γ.m pc' Ls st)) (K' : x = 0 → Go Γ n0 Q T (mkF Γ.m pc'' Ls st)) : Go Γ n0 Q T (mkF Γ.m pc Ls (.int x :: st)) := by
  subst hp'
  obtain ⟨hx, hZ0, hown0, hby, hml, hret, hnm, hlk, hR, hsH, hzz, hel, hew⟩ := G
  subst hzz hel
  obtain ⟨aw, hew⟩ := hew
  obtain ⟨L, vm0, k0, X, e, N, hS, hk, HD⟩ := X
  have hZ : Γ.Z.Warmed39 (Γ.s.setVm vm0).vm := State.Warmed39.trans hZ0 hS.1
  have hown : (Γ.s.setVm vm0).vm.findClass own = some Γ.m.cls := by rw [show (Γ.s.setVm vm0).vm = vm0 from rfl, hS.1.alike.findClass]; exact hown0
  cases q : ifCond.holds .ne x
  · exact Go.of (fun t k => XS.ifNo X.here hx rfl (hb hby hd) rfl q k) (K' ((hold0_ne x).2 q))
  · exact Go.of (fun t k => XS.ifYes X.here hx rfl (pc0 := pc) rfl (hb hby hd) rfl q ho hp k) (K ((hold0_ne x).1 q))
theorem hold_lt (x y : Int32) : (if_icmp.holds .lt x y = true → x.toInt < y.toInt) ∧ (if_icmp.holds .lt x y = false → y.toInt ≤ x.toInt) := by
  constructor <;> intro q <;> simp only [if_icmp.holds] at q <;> simp [Int32.lt_iff_toInt_lt, Int32.le_iff_toInt_le] at q ⊢ <;> first | exact q | omega
theorem hold0_lt (x : Int32) : (ifCond.holds .lt x = true → x.toInt < 0) ∧ (ifCond.holds .lt x = false → 0 ≤ x.toInt) := by
  have z := z32
  constructor <;> intro q <;> simp only [ifCond.holds] at q <;> simp [Int32.lt_iff_toInt_lt, Int32.le_iff_toInt_le] at q ⊢ <;> first | exact q | omega
theorem k_icmp_lt {o : Int} {x y : Int32} {pc'' : Nat} (G : Ctx Γ Z EL own bytes maxl ret nm rm hs0) (X : W Γ n0 T h C S sf) (hd : decode bytes pc = .ok (.if_icmp .lt o, 3)) (hp : ((pc : Int) + o).toNat = pc') (ho : 0 ≤ (pc : Int) + o) (hp' : pc + 3 = pc'') (K : x.toInt < y.toInt → Go Γ n0 Q T (mkF Γ.m pc' Ls st)) (K' : y.toInt ≤ x.toInt → Go Γ n0 Q T (mkF Γ.m pc'' Ls st)) : Go Γ n0 Q T (mkF Γ.m pc Ls (.int y :: .int x :: st)) := by
  subst hp'
  obtain ⟨hx, hZ0, hown0, hby, hml, hret, hnm, hlk, hR, hsH, hzz, hel, hew⟩ := G
  subst hzz hel
  obtain ⟨aw, hew⟩ := hew
  obtain ⟨L, vm0, k0, X, e, N, hS, hk, HD⟩ := X
  have hZ : Γ.Z.Warmed39 (Γ.s.setVm vm0).vm := State.Warmed39.trans hZ0 hS.1
  have hown : (Γ.s.setVm vm0).vm.findClass own = some Γ.m.cls := by rw [show (Γ.s.setVm vm0).vm = vm0 from rfl, hS.1.alike.findClass]; exact hown0
  cases q : if_icmp.holds .lt x y
  · exact Go.of (fun t k => XS.icmpNo X.here hx rfl (hb hby hd) rfl q k) (K' ((hold_lt x y).2 q))
  · exact Go.of (fun t k => XS.icmpYes X.here hx rfl (pc0 := pc) rfl (hb hby hd) rfl q ho hp k) (K ((hold_lt x y).1 q))
theorem k_if_lt {o : Int} {x : Int32} {pc'' : Nat} (G : Ctx Γ Z EL own bytes maxl ret nm rm hs0) (X : W Γ n0 T h C S sf) (hd : decode bytes pc = .ok (.ifCond .lt o, 3)) (hp : ((pc : Int) + o).toNat = pc') (ho : 0 ≤ (pc : Int) + o) (hp' : pc + 3 = pc'') (K : x.toInt < 0 → Go Γ n0 Q T (mkF Γ.m pc' Ls st)) (K' : 0 ≤ x.toInt → Go Γ n0 Q T (mkF Γ.m pc'' Ls st)) : Go Γ n0 Q T (mkF Γ.m pc Ls (.int x :: st)) := by
  subst hp'
  obtain ⟨hx, hZ0, hown0, hby, hml, hret, hnm, hlk, hR, hsH, hzz, hel, hew⟩ := G
  subst hzz hel
  obtain ⟨aw, hew⟩ := hew
  obtain ⟨L, vm0, k0, X, e, N, hS, hk, HD⟩ := X
  have hZ : Γ.Z.Warmed39 (Γ.s.setVm vm0).vm := State.Warmed39.trans hZ0 hS.1
  have hown : (Γ.s.setVm vm0).vm.findClass own = some Γ.m.cls := by rw [show (Γ.s.setVm vm0).vm = vm0 from rfl, hS.1.alike.findClass]; exact hown0
  cases q : ifCond.holds .lt x
  · exact Go.of (fun t k => XS.ifNo X.here hx rfl (hb hby hd) rfl q k) (K' ((hold0_lt x).2 q))
  · exact Go.of (fun t k => XS.ifYes X.here hx rfl (pc0 := pc) rfl (hb hby hd) rfl q ho hp k) (K ((hold0_lt x).1 q))
theorem hold_ge (x y : Int32) : (if_icmp.holds .ge x y = true → y.toInt ≤ x.toInt) ∧ (if_icmp.holds .ge x y = false → x.toInt < y.toInt) := by
  constructor <;> intro q <;> simp only [if_icmp.holds] at q <;> simp [Int32.lt_iff_toInt_lt, Int32.le_iff_toInt_le] at q ⊢ <;> first | exact q | omega
theorem hold0_ge (x : Int32) : (ifCond.holds .ge x = true → 0 ≤ x.toInt) ∧ (ifCond.holds .ge x = false → x.toInt < 0) := by
  have z := z32
  constructor <;> intro q <;> simp only [ifCond.holds] at q <;> simp [Int32.lt_iff_toInt_lt, Int32.le_iff_toInt_le] at q ⊢ <;> first | exact q | omega
theorem k_icmp_ge {o : Int} {x y : Int32} {pc'' : Nat} (G : Ctx Γ Z EL own bytes maxl ret nm rm hs0) (X : W Γ n0 T h C S sf) (hd : decode bytes pc = .ok (.if_icmp .ge o, 3)) (hp : ((pc : Int) + o).toNat = pc') (ho : 0 ≤ (pc : Int) + o) (hp' : pc + 3 = pc'') (K : y.toInt ≤ x.toInt → Go Γ n0 Q T (mkF Γ.m pc' Ls st)) (K' : x.toInt < y.toInt → Go Γ n0 Q T (mkF Γ.m pc'' Ls st)) : Go Γ n0 Q T (mkF Γ.m pc Ls (.int y :: .int x :: st)) := by
  subst hp'
  obtain ⟨hx, hZ0, hown0, hby, hml, hret, hnm, hlk, hR, hsH, hzz, hel, hew⟩ := G
  subst hzz hel
  obtain ⟨aw, hew⟩ := hew
  obtain ⟨L, vm0, k0, X, e, N, hS, hk, HD⟩ := X
  have hZ : Γ.Z.Warmed39 (Γ.s.setVm vm0).vm := State.Warmed39.trans hZ0 hS.1
  have hown : (Γ.s.setVm vm0).vm.findClass own = some Γ.m.cls := by rw [show (Γ.s.setVm vm0).vm = vm0 from rfl, hS.1.alike.findClass]; exact hown0
  cases q : if_icmp.holds .ge x y
  · exact Go.of (fun t k => XS.icmpNo X.here hx rfl (hb hby hd) rfl q k) (K' ((hold_ge x y).2 q))
  · exact Go.of (fun t k => XS.icmpYes X.here hx rfl (pc0 := pc) rfl (hb hby hd) rfl q ho hp k) (K ((hold_ge x y).1 q))
theorem k_if_ge {o : Int} {x : Int32} {pc'' : Nat} (G : Ctx Γ Z EL own bytes maxl ret nm rm hs0) (X : W Γ n0 T h C S sf) (hd : decode bytes pc = .ok (.ifCond .ge o, 3)) (hp : ((pc : Int) + o).toNat = pc') (ho : 0 ≤ (pc : Int) + o) (hp' : pc + 3 = pc'') (K : 0 ≤ x.toInt → Go Γ n0 Q T (mkF Γ.m pc' Ls st)) (K' : x.toInt < 0 → Go Γ n0 Q T (mkF Γ.m pc'' Ls st)) : Go Γ n0 Q T (mkF Γ.m pc Ls (.int x :: st)) := by
  subst hp'
  obtain ⟨hx, hZ0, hown0, hby, hml, hret, hnm, hlk, hR, hsH, hzz, hel, hew⟩ := G
  subst hzz hel
  obtain ⟨aw, hew⟩ := hew
  obtain ⟨L, vm0, k0, X, e, N, hS, hk, HD⟩ := X
  have hZ : Γ.Z.Warmed39 (Γ.s.setVm vm0).vm := State.Warmed39.trans hZ0 hS.1
  have hown : (Γ.s.setVm vm0).vm.findClass own = some Γ.m.cls := by rw [show (Γ.s.setVm vm0).vm = vm0 from rfl, hS.1.alike.findClass]; exact hown0
  cases q : ifCond.holds .ge x
  · exact Go.of (fun t k => XS.ifNo X.here hx rfl (hb hby hd) rfl q k) (K' ((hold0_ge x).2 q))
  · exact Go.of (fun t k => XS.ifYes X.here hx rfl (pc0 := pc) rfl (hb hby hd) rfl q ho hp k) (K ((hold0_ge x).1 q))
theorem hold_gt (x y : Int32) : (if_icmp.holds .gt x y = true → y.toInt < x.toInt) ∧ (if_icmp.holds .gt x y = false → x.toInt ≤ y.toInt) := by
  constructor <;> intro q <;> simp only [if_icmp.holds] at q <;> simp [Int32.lt_iff_toInt_lt, Int32.le_iff_toInt_le] at q ⊢ <;> first | exact q | omega
theorem hold0_gt (x : Int32) : (ifCond.holds .gt x = true → 0 < x.toInt) ∧ (ifCond.holds .gt x = false → x.toInt ≤ 0) := by
  have z := z32
  constructor <;> intro q <;> simp only [ifCond.holds] at q <;> simp [Int32.lt_iff_toInt_lt, Int32.le_iff_toInt_le] at q ⊢ <;> first | exact q | omega
theorem k_icmp_gt {o : Int} {x y : Int32} {pc'' : Nat} (G : Ctx Γ Z EL own bytes maxl ret nm rm hs0) (X : W Γ n0 T h C S sf) (hd : decode bytes pc = .ok (.if_icmp .gt o, 3)) (hp : ((pc : Int) + o).toNat = pc') (ho : 0 ≤ (pc : Int) + o) (hp' : pc + 3 = pc'') (K : y.toInt < x.toInt → Go Γ n0 Q T (mkF Γ.m pc' Ls st)) (K' : x.toInt ≤ y.toInt → Go Γ n0 Q T (mkF Γ.m pc'' Ls st)) : Go Γ n0 Q T (mkF Γ.m pc Ls (.int y :: .int x :: st)) := by
  subst hp'
  obtain ⟨hx, hZ0, hown0, hby, hml, hret, hnm, hlk, hR, hsH, hzz, hel, hew⟩ := G
  subst hzz hel
  obtain ⟨aw, hew⟩ := hew
  obtain ⟨L, vm0, k0, X, e, N, hS, hk, HD⟩ := X
  have hZ : Γ.Z.Warmed39 (Γ.s.setVm vm0).vm := State.Warmed39.trans hZ0 hS.1
  have hown : (Γ.s.setVm vm0).vm.findClass own = some Γ.m.cls := by rw [show (Γ.s.setVm vm0).vm = vm0 from rfl, hS.1.alike.findClass]; exact hown0
  cases q : if_icmp.holds .gt x y
  · exact Go.of (fun t k => XS.icmpNo X.here hx rfl (hb hby hd) rfl q k) (K' ((hold_gt x y).2 q))
  · exact Go.of (fun t k => XS.icmpYes X.here hx rfl (pc0 := pc) rfl (hb hby hd) rfl q ho hp k) (K ((hold_gt x y).1 q))
theorem k_if_gt {o : Int} {x : Int32} {pc'' : Nat} (G : Ctx Γ Z EL own bytes maxl ret nm rm hs0) (X : W Γ n0 T h C S sf) (hd : decode bytes pc = .ok (.ifCond .gt o, 3)) (hp : ((pc : Int) + o).toNat = pc') (ho : 0 ≤ (pc : Int) + o) (hp' : pc + 3 = pc'') (K : 0 < x.toInt → Go Γ n0 Q T (mkF Γ.m pc' Ls st)) (K' : x.toInt ≤ 0 → Go Γ n0 Q T (mkF Γ.m pc'' Ls st)) : Go Γ n0 Q T (mkF Γ.m pc Ls (.int x :: st)) := by
  subst hp'
  obtain ⟨hx, hZ0, hown0, hby, hml, hret, hnm, hlk, hR, hsH, hzz, hel, hew⟩ := G
  subst hzz hel
  obtain ⟨aw, hew⟩ := hew
  obtain ⟨L, vm0, k0, X, e, N, hS, hk, HD⟩ := X
  have hZ : Γ.Z.Warmed39 (Γ.s.setVm vm0).vm := State.Warmed39.trans hZ0 hS.1
  have hown : (Γ.s.setVm vm0).vm.findClass own = some Γ.m.cls := by rw [show (Γ.s.setVm vm0).vm = vm0 from rfl, hS.1.alike.findClass]; exact hown0
  cases q : ifCond.holds .gt x
  · exact Go.of (fun t k => XS.ifNo X.here hx rfl (hb hby hd) rfl q k) (K' ((hold0_gt x).2 q))
  · exact Go.of (fun t k => XS.ifYes X.here hx rfl (pc0 := pc) rfl (hb hby hd) rfl q ho hp k) (K ((hold0_gt x).1 q))
theorem hold_le (x y : Int32) : (if_icmp.holds .le x y = true → x.toInt ≤ y.toInt) ∧ (if_icmp.holds .le x y = false → y.toInt < x.toInt) := by
  constructor <;> intro q <;> simp only [if_icmp.holds] at q <;> simp [Int32.lt_iff_toInt_lt, Int32.le_iff_toInt_le] at q ⊢ <;> first | exact q | omega
theorem hold0_le (x : Int32) : (ifCond.holds .le x = true → x.toInt ≤ 0) ∧ (ifCond.holds .le x = false → 0 < x.toInt) := by
  have z := z32
  constructor <;> intro q <;> simp only [ifCond.holds] at q <;> simp [Int32.lt_iff_toInt_lt, Int32.le_iff_toInt_le] at q ⊢ <;> first | exact q | omega
theorem k_icmp_le {o : Int} {x y : Int32} {pc'' : Nat} (G : Ctx Γ Z EL own bytes maxl ret nm rm hs0) (X : W Γ n0 T h C S sf) (hd : decode bytes pc = .ok (.if_icmp .le o, 3)) (hp : ((pc : Int) + o).toNat = pc') (ho : 0 ≤ (pc : Int) + o) (hp' : pc + 3 = pc'') (K : x.toInt ≤ y.toInt → Go Γ n0 Q T (mkF Γ.m pc' Ls st)) (K' : y.toInt < x.toInt → Go Γ n0 Q T (mkF Γ.m pc'' Ls st)) : Go Γ n0 Q T (mkF Γ.m pc Ls (.int y :: .int x :: st)) := by
  subst hp'
  obtain ⟨hx, hZ0, hown0, hby, hml, hret, hnm, hlk, hR, hsH, hzz, hel, hew⟩ := G
  subst hzz hel
  obtain ⟨aw, hew⟩ := hew
  obtain ⟨L, vm0, k0, X, e, N, hS, hk, HD⟩ := X
  have hZ : Γ.Z.Warmed39 (Γ.s.setVm vm0).vm := State.Warmed39.trans hZ0 hS.1
  have hown : (Γ.s.setVm vm0).vm.findClass own = some Γ.m.cls := by rw [show (Γ.s.setVm vm0).vm = vm0 from rfl, hS.1.alike.findClass]; exact hown0
  cases q : if_icmp.holds .le x y
  · exact Go.of (fun t k => XS.icmpNo X.here hx rfl (hb hby hd) rfl q k) (K' ((hold_le x y).2 q))
  · exact Go.of (fun t k => XS.icmpYes X.here hx rfl (pc0 := pc) rfl (hb hby hd) rfl q ho hp k) (K ((hold_le x y).1 q))
theorem k_if_le {o : Int} {x : Int32} {pc'' : Nat} (G : Ctx Γ Z EL own bytes maxl ret nm rm hs0) (X : W Γ n0 T h C S sf) (hd : decode bytes pc = .ok (.ifCond .le o, 3)) (hp : ((pc : Int) + o).toNat = pc') (ho : 0 ≤ (pc : Int) + o) (hp' : pc + 3 = pc'') (K : x.toInt ≤ 0 → Go Γ n0 Q T (mkF Γ.m pc' Ls st)) (K' : 0 < x.toInt → Go Γ n0 Q T (mkF Γ.m pc'' Ls st)) : Go Γ n0 Q T (mkF Γ.m pc Ls (.int x :: st)) := by
  subst hp'
  obtain ⟨hx, hZ0, hown0, hby, hml, hret, hnm, hlk, hR, hsH, hzz, hel, hew⟩ := G
  subst hzz hel
  obtain ⟨aw, hew⟩ := hew
  obtain ⟨L, vm0, k0, X, e, N, hS, hk, HD⟩ := X
  have hZ : Γ.Z.Warmed39 (Γ.s.setVm vm0).vm := State.Warmed39.trans hZ0 hS.1
  have hown : (Γ.s.setVm vm0).vm.findClass own = some Γ.m.cls := by rw [show (Γ.s.setVm vm0).vm = vm0 from rfl, hS.1.alike.findClass]; exact hown0
  cases q : ifCond.holds .le x
  · exact Go.of (fun t k => XS.ifNo X.here hx rfl (hb hby hd) rfl q k) (K' ((hold0_le x).2 q))
  · exact Go.of (fun t k => XS.ifYes X.here hx rfl (pc0 := pc) rfl (hb hby hd) rfl q ho hp k) (K ((hold0_le x).1 q))
theorem k_acmp_eq {o : Int} {x y : Value} {pc'' : Nat} (G : Ctx Γ Z EL own bytes maxl ret nm rm hs0) (X : W Γ n0 T h C S sf) (hd : decode bytes pc = .ok (.if_acmp .eq o, 3)) (hp : ((pc : Int) + o).toNat = pc') (ho : 0 ≤ (pc : Int) + o) (hp' : pc + 3 = pc'') (h1 : x.isRef = true) (h2 : y.isRef = true) (K : x = y → Go Γ n0 Q T (mkF Γ.m pc' Ls st)) (K' : x ≠ y → Go Γ n0 Q T (mkF Γ.m pc'' Ls st)) : Go Γ n0 Q T (mkF Γ.m pc Ls (y :: x :: st)) := by
  subst hp hp'
  obtain ⟨hx, hZ0, hown0, hby, hml, hret, hnm, hlk, hR, hsH, hzz, hel, hew⟩ := G
  subst hzz hel
  obtain ⟨aw, hew⟩ := hew
  obtain ⟨L, vm0, k0, X, e, N, hS, hk, HD⟩ := X
  have hZ : Γ.Z.Warmed39 (Γ.s.setVm vm0).vm := State.Warmed39.trans hZ0 hS.1
  have hown : (Γ.s.setVm vm0).vm.findClass own = some Γ.m.cls := by rw [show (Γ.s.setVm vm0).vm = vm0 from rfl, hS.1.alike.findClass]; exact hown0
  by_cases q : x = y
  · exact Go.of (fun t k => acmp (g := mkF Γ.m pc Ls (y :: x :: st)) X hx rfl h1 h2 (pc0 := pc) (same := true) rfl (hb hby hd) rfl (decide_eq_true q) ho rfl k) (K q)
  · exact Go.of (fun t k => acmp (g := mkF Γ.m pc Ls (y :: x :: st)) X hx rfl h1 h2 (pc0 := pc) (same := false) rfl (hb hby hd) rfl (decide_eq_false q) ho rfl k) (K' q)
theorem k_acmp_ne {o : Int} {x y : Value} {pc'' : Nat} (G : Ctx Γ Z EL own bytes maxl ret nm rm hs0) (X : W Γ n0 T h C S sf) (hd : decode bytes pc = .ok (.if_acmp .ne o, 3)) (hp : ((pc : Int) + o).toNat = pc') (ho : 0 ≤ (pc : Int) + o) (hp' : pc + 3 = pc'') (h1 : x.isRef = true) (h2 : y.isRef = true) (K : x ≠ y → Go Γ n0 Q T (mkF Γ.m pc' Ls st)) (K' : x = y → Go Γ n0 Q T (mkF Γ.m pc'' Ls st)) : Go Γ n0 Q T (mkF Γ.m pc Ls (y :: x :: st)) := by
  subst hp hp'
  obtain ⟨hx, hZ0, hown0, hby, hml, hret, hnm, hlk, hR, hsH, hzz, hel, hew⟩ := G
  subst hzz hel
  obtain ⟨aw, hew⟩ := hew
  obtain ⟨L, vm0, k0, X, e, N, hS, hk, HD⟩ := X
  have hZ : Γ.Z.Warmed39 (Γ.s.setVm vm0).vm := State.Warmed39.trans hZ0 hS.1
  have hown : (Γ.s.setVm vm0).vm.findClass own = some Γ.m.cls := by rw [show (Γ.s.setVm vm0).vm = vm0 from rfl, hS.1.alike.findClass]; exact hown0
  by_cases q : x = y
  · exact Go.of (fun t k => acmp (g := mkF Γ.m pc Ls (y :: x :: st)) X hx rfl h1 h2 (pc0 := pc) (same := true) rfl (hb hby hd) rfl (decide_eq_true q) ho rfl k) (K' q)
  · exact Go.of (fun t k => acmp (g := mkF Γ.m pc Ls (y :: x :: st)) X hx rfl h1 h2 (pc0 := pc) (same := false) rfl (hb hby hd) rfl (decide_eq_false q) ho rfl k) (K q)
theorem k_ifnull {o : Int} {x : Value} {pc'' : Nat} (G : Ctx Γ Z EL own bytes maxl ret nm rm hs0) (X : W Γ n0 T h C S sf) (hd : decode bytes pc = .ok (.ifnull o, 3)) (hp : ((pc : Int) + o).toNat = pc') (ho : 0 ≤ (pc : Int) + o) (hp' : pc + 3 = pc'') (h1 : x.isRef = true) (K : x = .null → Go Γ n0 Q T (mkF Γ.m pc' Ls st)) (K' : ∀ a, x = .ref a → Go Γ n0 Q T (mkF Γ.m pc'' Ls st)) : Go Γ n0 Q T (mkF Γ.m pc Ls (x :: st)) := by
  subst hp'
  obtain ⟨hx, hZ0, hown0, hby, hml, hret, hnm, hlk, hR, hsH, hzz, hel, hew⟩ := G
  subst hzz hel
  obtain ⟨aw, hew⟩ := hew
  obtain ⟨L, vm0, k0, X, e, N, hS, hk, HD⟩ := X
  have hZ : Γ.Z.Warmed39 (Γ.s.setVm vm0).vm := State.Warmed39.trans hZ0 hS.1
  have hown : (Γ.s.setVm vm0).vm.findClass own = some Γ.m.cls := by rw [show (Γ.s.setVm vm0).vm = vm0 from rfl, hS.1.alike.findClass]; exact hown0
  rcases ref_cases h1 with rfl | ⟨a, rfl⟩
  · exact Go.of (fun t k => XS.ifnullYes X.here hx rfl (pc0 := pc) rfl (hb hby hd) rfl ho hp k) (K rfl)
  · exact Go.of (fun t k => XS.ifnullNo X.here hx rfl (hb hby hd) rfl k) (K' a rfl)
theorem k_ifnonnull {o : Int} {x : Value} {pc'' : Nat} (G : Ctx Γ Z EL own bytes maxl ret nm rm hs0) (X : W Γ n0 T h C S sf) (hd : decode bytes pc = .ok (.ifnonnull o, 3)) (hp : ((pc : Int) + o).toNat = pc') (ho : 0 ≤ (pc : Int) + o) (hp' : pc + 3 = pc'') (h1 : x.isRef = true) (K : ∀ a, x = .ref a → Go Γ n0 Q T (mkF Γ.m pc' Ls st)) (K' : x = .null → Go Γ n0 Q T (mkF Γ.m pc'' Ls st)) : Go Γ n0 Q T (mkF Γ.m pc Ls (x :: st)) := by
  subst hp'
  obtain ⟨hx, hZ0, hown0, hby, hml, hret, hnm, hlk, hR, hsH, hzz, hel, hew⟩ := G
  subst hzz hel
  obtain ⟨aw, hew⟩ := hew
  obtain ⟨L, vm0, k0, X, e, N, hS, hk, HD⟩ := X
  have hZ : Γ.Z.Warmed39 (Γ.s.setVm vm0).vm := State.Warmed39.trans hZ0 hS.1
  have hown : (Γ.s.setVm vm0).vm.findClass own = some Γ.m.cls := by rw [show (Γ.s.setVm vm0).vm = vm0 from rfl, hS.1.alike.findClass]; exact hown0
  rcases ref_cases h1 with rfl | ⟨a, rfl⟩
  · exact Go.of (fun t k => XS.ifnonnullNo X.here hx rfl (hb hby hd) rfl k) (K' rfl)
  · exact Go.of (fun t k => XS.ifnonnullYes X.here hx rfl (pc0 := pc) rfl (hb hby hd) rfl ho hp k) (K a rfl)
theorem k_lswHit {k : Int32} {dflt : Int} {pairs : Array (Int × Int)} {len : Nat} {a off : Int} (G : Ctx Γ Z EL own bytes maxl ret nm rm hs0) (X : W Γ n0 T h C S sf) (hd : decode bytes pc = .ok (.lookupswitch dflt pairs, len)) (hs : (pairs.toList.zip (pairs.toList.drop 1)).all (fun (a, next) => a.1 < next.1) = true) (hf : pairs.find? (·.1 == k.toInt) = some (a, off)) (ho : 0 ≤ (pc : Int) + off) (hp : ((pc : Int) + off).toNat = pc') (K : Go Γ n0 Q T (mkF Γ.m pc' Ls st)) : Go Γ n0 Q T (mkF Γ.m pc Ls (.int k :: st)) := by
  subst hp
  obtain ⟨hx, hZ0, hown0, hby, hml, hret, hnm, hlk, hR, hsH, hzz, hel, hew⟩ := G
  subst hzz hel
  obtain ⟨aw, hew⟩ := hew
  obtain ⟨L, vm0, k0, X, e, N, hS, hk, HD⟩ := X
  have hZ : Γ.Z.Warmed39 (Γ.s.setVm vm0).vm := State.Warmed39.trans hZ0 hS.1
  have hown : (Γ.s.setVm vm0).vm.findClass own = some Γ.m.cls := by rw [show (Γ.s.setVm vm0).vm = vm0 from rfl, hS.1.alike.findClass]; exact hown0
  exact Go.of (fun t k' => X.lookupswitchHit hx (g := mkF Γ.m pc Ls (.int k :: st)) rfl rfl (hb hby hd) hs hf ho t k') K
theorem k_lswMiss {k : Int32} {dflt : Int} {pairs : Array (Int × Int)} {len : Nat} (G : Ctx Γ Z EL own bytes maxl ret nm rm hs0) (X : W Γ n0 T h C S sf) (hd : decode bytes pc = .ok (.lookupswitch dflt pairs, len)) (hs : (pairs.toList.zip (pairs.toList.drop 1)).all (fun (a, next) => a.1 < next.1) = true) (hf : pairs.find? (·.1 == k.toInt) = none) (ho : 0 ≤ (pc : Int) + dflt) (hp : ((pc : Int) + dflt).toNat = pc') (K : Go Γ n0 Q T (mkF Γ.m pc' Ls st)) : Go Γ n0 Q T (mkF Γ.m pc Ls (.int k :: st)) := by
  subst hp
  obtain ⟨hx, hZ0, hown0, hby, hml, hret, hnm, hlk, hR, hsH, hzz, hel, hew⟩ := G
  subst hzz hel
  obtain ⟨aw, hew⟩ := hew
  obtain ⟨L, vm0, k0, X, e, N, hS, hk, HD⟩ := X
  have hZ : Γ.Z.Warmed39 (Γ.s.setVm vm0).vm := State.Warmed39.trans hZ0 hS.1
  have hown : (Γ.s.setVm vm0).vm.findClass own = some Γ.m.cls := by rw [show (Γ.s.setVm vm0).vm = vm0 from rfl, hS.1.alike.findClass]; exact hown0
  exact Go.of (fun t k' => X.lookupswitchMiss hx (g := mkF Γ.m pc Ls (.int k :: st)) rfl rfl (hb hby hd) hs hf ho t k') K
theorem k_tswIn {k : Int32} {dflt low high : Int} {offs : Array Int} {len : Nat} {off : Int} (G : Ctx Γ Z EL own bytes maxl ret nm rm hs0) (X : W Γ n0 T h C S sf) (hd : decode bytes pc = .ok (.tableswitch dflt low high offs, len)) (hin : low ≤ k.toInt ∧ k.toInt ≤ high) (hf : offs[(k.toInt - low).toNat]? = some off) (ho : 0 ≤ (pc : Int) + off) (hp : ((pc : Int) + off).toNat = pc') (K : Go Γ n0 Q T (mkF Γ.m pc' Ls st)) : Go Γ n0 Q T (mkF Γ.m pc Ls (.int k :: st)) := by
  subst hp
  obtain ⟨hx, hZ0, hown0, hby, hml, hret, hnm, hlk, hR, hsH, hzz, hel, hew⟩ := G
  subst hzz hel
  obtain ⟨aw, hew⟩ := hew
  obtain ⟨L, vm0, k0, X, e, N, hS, hk, HD⟩ := X
  have hZ : Γ.Z.Warmed39 (Γ.s.setVm vm0).vm := State.Warmed39.trans hZ0 hS.1
  have hown : (Γ.s.setVm vm0).vm.findClass own = some Γ.m.cls := by rw [show (Γ.s.setVm vm0).vm = vm0 from rfl, hS.1.alike.findClass]; exact hown0
  exact Go.of (fun t k' => X.tableswitchIn hx (g := mkF Γ.m pc Ls (.int k :: st)) rfl rfl (hb hby hd) (by omega) hf ho t k') K
theorem k_tswOut {k : Int32} {dflt low high : Int} {offs : Array Int} {len : Nat} (G : Ctx Γ Z EL own bytes maxl ret nm rm hs0) (X : W Γ n0 T h C S sf) (hd : decode bytes pc = .ok (.tableswitch dflt low high offs, len)) (hout : k.toInt < low ∨ high < k.toInt) (ho : 0 ≤ (pc : Int) + dflt) (hp : ((pc : Int) + dflt).toNat = pc') (K : Go Γ n0 Q T (mkF Γ.m pc' Ls st)) : Go Γ n0 Q T (mkF Γ.m pc Ls (.int k :: st)) := by
  subst hp
  obtain ⟨hx, hZ0, hown0, hby, hml, hret, hnm, hlk, hR, hsH, hzz, hel, hew⟩ := G
  subst hzz hel
  obtain ⟨aw, hew⟩ := hew
  obtain ⟨L, vm0, k0, X, e, N, hS, hk, HD⟩ := X
  have hZ : Γ.Z.Warmed39 (Γ.s.setVm vm0).vm := State.Warmed39.trans hZ0 hS.1
  have hown : (Γ.s.setVm vm0).vm.findClass own = some Γ.m.cls := by rw [show (Γ.s.setVm vm0).vm = vm0 from rfl, hS.1.alike.findClass]; exact hown0
  exact Go.of (fun t k' => X.tableswitchOut hx (g := mkF Γ.m pc Ls (.int k :: st)) rfl rfl (hb hby hd) hout ho t k') K
theorem k_ldcI {a0 : Array Value} {idx : Nat} {v : Int32} (G : Ctx Γ Z EL own bytes maxl ret nm rm hs0) (X : W Γ n0 T h C S sf) (w : (Cond.constant own idx v).before a0 Z = true) (hd : decode bytes pc = .ok (.ldc idx, 2)) (hp : pc + 2 = pc') (K : Go Γ n0 Q T (mkF Γ.m pc' Ls (.int v :: st))) : Go Γ n0 Q T (mkF Γ.m pc Ls st) := by
  subst hp
  obtain ⟨hx, hZ0, hown0, hby, hml, hret, hnm, hlk, hR, hsH, hzz, hel, hew⟩ := G
  subst hzz hel
  obtain ⟨aw, hew⟩ := hew
  obtain ⟨L, vm0, k0, X, e, N, hS, hk, HD⟩ := X
  have hZ : Γ.Z.Warmed39 (Γ.s.setVm vm0).vm := State.Warmed39.trans hZ0 hS.1
  have hown : (Γ.s.setVm vm0).vm.findClass own = some Γ.m.cls := by rw [show (Γ.s.setVm vm0).vm = vm0 from rfl, hS.1.alike.findClass]; exact hown0
  exact Go.of (fun t k => X.ldcInt hx hown (mvT hZ w) (g := mkF Γ.m pc Ls st) rfl (hb hby hd) t k) K
theorem k_ldcwI {a0 : Array Value} {idx : Nat} {v : Int32} (G : Ctx Γ Z EL own bytes maxl ret nm rm hs0) (X : W Γ n0 T h C S sf) (w : (Cond.constant own idx v).before a0 Z = true) (hd : decode bytes pc = .ok (.ldc_w idx, 3)) (hp : pc + 3 = pc') (K : Go Γ n0 Q T (mkF Γ.m pc' Ls (.int v :: st))) : Go Γ n0 Q T (mkF Γ.m pc Ls st) := by
  subst hp
  obtain ⟨hx, hZ0, hown0, hby, hml, hret, hnm, hlk, hR, hsH, hzz, hel, hew⟩ := G
  subst hzz hel
  obtain ⟨aw, hew⟩ := hew
  obtain ⟨L, vm0, k0, X, e, N, hS, hk, HD⟩ := X
  have hZ : Γ.Z.Warmed39 (Γ.s.setVm vm0).vm := State.Warmed39.trans hZ0 hS.1
  have hown : (Γ.s.setVm vm0).vm.findClass own = some Γ.m.cls := by rw [show (Γ.s.setVm vm0).vm = vm0 from rfl, hS.1.alike.findClass]; exact hown0
  exact Go.of (fun t k => X.ldcwInt hx hown (mvT hZ w) (g := mkF Γ.m pc Ls st) rfl (hb hby hd) t k) K
theorem k_ldcL {a0 : Array Value} {idx : Nat} {v : Int64} (G : Ctx Γ Z EL own bytes maxl ret nm rm hs0) (X : W Γ n0 T h C S sf) (w : (Cond.constantLong own idx v).before a0 Z = true) (hd : decode bytes pc = .ok (.ldc2_w idx, 3)) (hp : pc + 3 = pc') (K : Go Γ n0 Q T (mkF Γ.m pc' Ls (.long v :: st))) : Go Γ n0 Q T (mkF Γ.m pc Ls st) := by
  subst hp
  obtain ⟨hx, hZ0, hown0, hby, hml, hret, hnm, hlk, hR, hsH, hzz, hel, hew⟩ := G
  subst hzz hel
  obtain ⟨aw, hew⟩ := hew
  obtain ⟨L, vm0, k0, X, e, N, hS, hk, HD⟩ := X
  have hZ : Γ.Z.Warmed39 (Γ.s.setVm vm0).vm := State.Warmed39.trans hZ0 hS.1
  have hown : (Γ.s.setVm vm0).vm.findClass own = some Γ.m.cls := by rw [show (Γ.s.setVm vm0).vm = vm0 from rfl, hS.1.alike.findClass]; exact hown0
  exact Go.of (fun t k => X.ldc2Long hx hown (mvT hZ w) (g := mkF Γ.m pc Ls st) rfl (hb hby hd) t k) K
theorem k_getS {a0 : Array Value} {idx : Nat} {R0 O n d host : String} {v : Value} (G : Ctx Γ Z EL own bytes maxl ret nm rm hs0) (X : W Γ n0 T h C S sf) (w : (Cond.fieldLink own idx R0 n d).before a0 Z = true ∨ (Cond.fieldLinkNest own idx R0 n d host).before a0 Z = true) (via : Via Z R0 O n d) (F : Sta Z h O n d v) (hd : decode bytes pc = .ok (.getstatic idx, 3)) (hp : pc + 3 = pc') (K : ∀ T, W Γ n0 T h C S sf → Go Γ n0 Q T (mkF Γ.m pc' Ls (v :: st))) : Go Γ n0 Q T (mkF Γ.m pc Ls st) := by
  subst hp
  obtain ⟨hx, hZ0, hown0, hby, hml, hret, hnm, hlk, hR, hsH, hzz, hel, hew⟩ := G
  subst hzz hel
  obtain ⟨aw, hew⟩ := hew
  obtain ⟨L, vm0, k0, X, e, N, hS, hk, HD⟩ := X
  have hZ : Γ.Z.Warmed39 (Γ.s.setVm vm0).vm := State.Warmed39.trans hZ0 hS.1
  have hown : (Γ.s.setVm vm0).vm.findClass own = some Γ.m.cls := by rw [show (Γ.s.setVm vm0).vm = vm0 from rfl, hS.1.alike.findClass]; exact hown0
  obtain ⟨T', X', e', st'⟩ := getS2 X hx hZ hown w via e F (g := mkF Γ.m pc Ls st) rfl (hb hby hd)
  exact Go.of st' (K T' ⟨L, vm0, k0, X', e', N, hS, hk, HD⟩)
theorem k_getF {a0 : Array Value} {idx : Nat} {R0 O n d host : String} {v : Value} {a : Addr} (G : Ctx Γ Z EL own bytes maxl ret nm rm hs0) (X : W Γ n0 T h C S sf) (w : (Cond.fieldLink own idx R0 n d).before a0 Z = true ∨ (Cond.fieldLinkNest own idx R0 n d host).before a0 Z = true) (via : Via Z R0 O n d) (F : Fld Z h a O n d v) (hd : decode bytes pc = .ok (.getfield idx, 3)) (hp : pc + 3 = pc') (K : ∀ T, W Γ n0 T h C S sf → Go Γ n0 Q T (mkF Γ.m pc' Ls (v :: st))) : Go Γ n0 Q T (mkF Γ.m pc Ls (.ref a :: st)) := by
  subst hp
  obtain ⟨hx, hZ0, hown0, hby, hml, hret, hnm, hlk, hR, hsH, hzz, hel, hew⟩ := G
  subst hzz hel
  obtain ⟨aw, hew⟩ := hew
  obtain ⟨L, vm0, k0, X, e, N, hS, hk, HD⟩ := X
  have hZ : Γ.Z.Warmed39 (Γ.s.setVm vm0).vm := State.Warmed39.trans hZ0 hS.1
  have hown : (Γ.s.setVm vm0).vm.findClass own = some Γ.m.cls := by rw [show (Γ.s.setVm vm0).vm = vm0 from rfl, hS.1.alike.findClass]; exact hown0
  obtain ⟨T', X', e', st'⟩ := getF X hx hZ hown w via e F (g := mkF Γ.m pc Ls (.ref a :: st)) rfl rfl (hb hby hd)
  exact Go.of st' (K T' ⟨L, vm0, k0, X', e', N, hS, hk, HD⟩)
theorem k_putF {a0 : Array Value} {idx kk : Nat} {R0 O n d host CC : String} {v old : Value} {ty : FieldType} {a : Addr} (G : Ctx Γ Z EL own bytes maxl ret nm rm hs0) (X : W Γ n0 T h C S sf) (w : (Cond.fieldLink own idx R0 n d).before a0 Z = true ∨ (Cond.fieldLinkNest own idx R0 n d host).before a0 Z = true) (via : Via Z R0 O n d) (F : Fld Z h a O n d old) (E : Exa Z h a CC) (lay : (Cond.lays CC O n d).before a0 Z = true ∨ ((Cond.laysFinal CC O n d).before a0 Z = true ∧ own = O ∧ nm = "<init>")) (wi : (Cond.instantiable CC kk).before a0 Z = true) (ht : parseFieldDescriptor d = some ty) (hn : narrow ty v = v) (hf : fits ty v = true) (ga : n0 ≤ a) (ms : a ∈ sf) (hd : decode bytes pc = .ok (.putfield idx, 3)) (hp : pc + 3 = pc') (K : ∀ T h', Wr h h' a (Jvm.RoadKit.slotOf Z O n d) v → W Γ n0 T h' C S sf → Go Γ n0 Q T (mkF Γ.m pc' Ls st)) : Go Γ n0 Q T (mkF Γ.m pc Ls (v :: .ref a :: st)) := by
  subst hp
  obtain ⟨hx, hZ0, hown0, hby, hml, hret, hnm, hlk, hR, hsH, hzz, hel, hew⟩ := G
  subst hzz hel
  obtain ⟨aw, hew⟩ := hew
  obtain ⟨L, vm0, k0, X, e, N, hS, hk, HD⟩ := X
  have hZ : Γ.Z.Warmed39 (Γ.s.setVm vm0).vm := State.Warmed39.trans hZ0 hS.1
  have hown : (Γ.s.setVm vm0).vm.findClass own = some Γ.m.cls := by rw [show (Γ.s.setVm vm0).vm = vm0 from rfl, hS.1.alike.findClass]; exact hown0
  obtain ⟨T', h', X', e', W', st'⟩ := putF X hx hZ hown w via e F E (by rw [hnm]; exact lay) wi ht hn hf (g := mkF Γ.m pc Ls (v :: .ref a :: st)) rfl rfl (hb hby hd)
  exact Go.of st' (K T' h' W' ⟨_, vm0, k0, X', e', Fr.snoc X' N ga, hS, (by rw [W'.size]; exact hk), HD.wr W' ms⟩)
theorem k_putFN {a0 : Array Value} {idx kk : Nat} {R0 O n d CC : String} {v v' old : Value} {ty : FieldType} {a : Addr} (G : Ctx Γ Z EL own bytes maxl ret nm rm hs0) (X : W Γ n0 T h C S sf) (w : (Cond.fieldLink own idx R0 n d).before a0 Z = true) (via : Via Z R0 O n d) (F : Fld Z h a O n d old) (E : Exa Z h a CC) (lay : (Cond.lays CC O n d).before a0 Z = true ∨ ((Cond.laysFinal CC O n d).before a0 Z = true ∧ own = O ∧ nm = "<init>")) (wi : (Cond.instantiable CC kk).before a0 Z = true) (ht : parseFieldDescriptor d = some ty) (hn : narrow ty v = v') (hf : fits ty v' = true) (ga : n0 ≤ a) (ms : a ∈ sf) (hd : decode bytes pc = .ok (.putfield idx, 3)) (hp : pc + 3 = pc') (K : ∀ T h', Wr h h' a (Jvm.RoadKit.slotOf Z O n d) v' → W Γ n0 T h' C S sf → Go Γ n0 Q T (mkF Γ.m pc' Ls st)) : Go Γ n0 Q T (mkF Γ.m pc Ls (v :: .ref a :: st)) := by
  subst hp
  obtain ⟨hx, hZ0, hown0, hby, hml, hret, hnm, hlk, hR, hsH, hzz, hel, hew⟩ := G
  subst hzz hel
  obtain ⟨aw, hew⟩ := hew
  obtain ⟨L, vm0, k0, X, e, N, hS, hk, HD⟩ := X
  have hZ : Γ.Z.Warmed39 (Γ.s.setVm vm0).vm := State.Warmed39.trans hZ0 hS.1
  have hown : (Γ.s.setVm vm0).vm.findClass own = some Γ.m.cls := by rw [show (Γ.s.setVm vm0).vm = vm0 from rfl, hS.1.alike.findClass]; exact hown0
  obtain ⟨T', h', X', e', W', st'⟩ := putFN X hx hZ hown w via e F E (by rw [hnm]; exact lay) wi ht hn hf (g := mkF Γ.m pc Ls (v :: .ref a :: st)) rfl rfl (hb hby hd)
  exact Go.of st' (K T' h' W' ⟨_, vm0, k0, X', e', Fr.snoc X' N ga, hS, (by rw [W'.size]; exact hk), HD.wr W' ms⟩)
theorem k_new {a0 : Array Value} {idx k : Nat} {CC : String} (G : Ctx Γ Z EL own bytes maxl ret nm rm hs0) (X : W Γ n0 T h C S sf) (w : (Cond.classLink own idx CC).before a0 Z = true) (wi : (Cond.instantiable CC k).before a0 Z = true) (wz : (Cond.initialized CC).before a0 Z = true) (hd : decode bytes pc = .ok (.new idx, 3)) (hp : pc + 3 = pc') (hc : C + 1 ≤ rm.cells) (hs : S + k ≤ rm.slots)
    (K : ∀ T h' a, h.size = a → Ext h h' → Exa Z h' a CC → (∀ {O nm d : String} {ty : FieldType}, Laid Z a0 CC O nm d → parseFieldDescriptor d = some ty → Fld Z h' a O nm d (defaultValue ty)) → W Γ n0 T h' (C + 1) (S + k) (a :: sf) → Go Γ n0 Q T (mkF Γ.m pc' Ls (.ref a :: st))) : Go Γ n0 Q T (mkF Γ.m pc Ls st) := by
  subst hp
  obtain ⟨hx, hZ0, hown0, hby, hml, hret, hnm, hlk, hR, hsH, hzz, hel, hew⟩ := G
  subst hzz hel
  obtain ⟨aw, hew⟩ := hew
  obtain ⟨L, vm0, k0, X, e, N, hS, hk, HD⟩ := X
  have hZ : Γ.Z.Warmed39 (Γ.s.setVm vm0).vm := State.Warmed39.trans hZ0 hS.1
  have hown : (Γ.s.setVm vm0).vm.findClass own = some Γ.m.cls := by rw [show (Γ.s.setVm vm0).vm = vm0 from rfl, hS.1.alike.findClass]; exact hown0
  obtain ⟨T', h', X', e', E', A', D', -, st'⟩ := newO X hx hZ hown w wi wz e (g := mkF Γ.m pc Ls st) rfl (hb hby hd) (hR ▸ hc) (hR ▸ hs)
  exact Go.of st' (K T' h' _ rfl E' A' D' ⟨L, vm0, k0, X', e', N, hS, (Nat.le_trans hk E'.1), HD.new E' A'.lt⟩)
theorem k_initO {a0 : Array Value} {idx : Nat} {a : Addr} {wd : Nat} (G : Ctx Γ Z EL own bytes maxl ret nm rm hs0) (X : W Γ n0 T h C S sf) (w1 : (Cond.methodLink own idx Lib.objectInit).before a0 Z = true) (w2 : (Cond.instanceMethod Lib.objectInit).before a0 Z = true) (w3 : (Cond.code Lib.objectInit ⟨#[0xb1]⟩ 1 none).before a0 Z = true) (hd : decode bytes pc = .ok (.invokespecial idx, 3)) (hp : pc + 3 = pc') (hL : Ls.size = maxl) (hf : 1 ≤ rm.frames) (hwd : (st.map fun v => v.category).sum = wd) (hl : wd + 12 ≤ rm.locals) (K : ∀ T, W Γ n0 T h C S sf → Go Γ n0 Q T (mkF Γ.m pc' Ls st)) : Go Γ n0 Q T (mkF Γ.m pc Ls (.ref a :: st)) := by
  subst hp
  obtain ⟨hx, hZ0, hown0, hby, hml, hret, hnm, hlk, hR, hsH, hzz, hel, hew⟩ := G
  subst hzz hel
  obtain ⟨aw, hew⟩ := hew
  obtain ⟨L, vm0, k0, X, e, N, hS, hk, HD⟩ := X
  have hZ : Γ.Z.Warmed39 (Γ.s.setVm vm0).vm := State.Warmed39.trans hZ0 hS.1
  have hown : (Γ.s.setVm vm0).vm.findClass own = some Γ.m.cls := by rw [show (Γ.s.setVm vm0).vm = vm0 from rfl, hS.1.alike.findClass]; exact hown0
  obtain ⟨T', X', e', st'⟩ := initO X hx hZ hown w1 w2 w3 e (g := mkF Γ.m pc Ls (.ref a :: st)) rfl (by rw [hml]; exact hL) rfl (hb hby hd) (hR ▸ hf) (W := wd) (by show 2 * 0 + _ ≤ _; omega) (hR ▸ hl)
  exact Go.of st' (K T' ⟨L, vm0, k0, X', e', N, hS, hk, HD⟩)
theorem k_castY {a0 : Array Value} {idx : Nat} {KK : String} {a : Addr} (G : Ctx Γ Z EL own bytes maxl ret nm rm hs0) (X : W Γ n0 T h C S sf) (w : (Cond.classLink own idx KK).before a0 Z = true) (F : Ins Z h a KK true) (hd : decode bytes pc = .ok (.checkcast idx, 3)) (hp : pc + 3 = pc') (K : ∀ T, W Γ n0 T h C S sf → Go Γ n0 Q T (mkF Γ.m pc' Ls (.ref a :: st))) : Go Γ n0 Q T (mkF Γ.m pc Ls (.ref a :: st)) := by
  subst hp
  obtain ⟨hx, hZ0, hown0, hby, hml, hret, hnm, hlk, hR, hsH, hzz, hel, hew⟩ := G
  subst hzz hel
  obtain ⟨aw, hew⟩ := hew
  obtain ⟨L, vm0, k0, X, e, N, hS, hk, HD⟩ := X
  have hZ : Γ.Z.Warmed39 (Γ.s.setVm vm0).vm := State.Warmed39.trans hZ0 hS.1
  have hown : (Γ.s.setVm vm0).vm.findClass own = some Γ.m.cls := by rw [show (Γ.s.setVm vm0).vm = vm0 from rfl, hS.1.alike.findClass]; exact hown0
  obtain ⟨T', X', e', st'⟩ := castY X hx hZ hown w e F (g := mkF Γ.m pc Ls (.ref a :: st)) rfl rfl (hb hby hd)
  exact Go.of st' (K T' ⟨L, vm0, k0, X', e', N, hS, hk, HD⟩)
theorem k_instY {a0 : Array Value} {idx : Nat} {KK : String} {a : Addr} (G : Ctx Γ Z EL own bytes maxl ret nm rm hs0) (X : W Γ n0 T h C S sf) (w : (Cond.classLink own idx KK).before a0 Z = true) (F : Ins Z h a KK true) (hd : decode bytes pc = .ok (.instanceof idx, 3)) (hp : pc + 3 = pc') (K : ∀ T, W Γ n0 T h C S sf → Go Γ n0 Q T (mkF Γ.m pc' Ls (.int 1 :: st))) : Go Γ n0 Q T (mkF Γ.m pc Ls (.ref a :: st)) := by
  subst hp
  obtain ⟨hx, hZ0, hown0, hby, hml, hret, hnm, hlk, hR, hsH, hzz, hel, hew⟩ := G
  subst hzz hel
  obtain ⟨aw, hew⟩ := hew
  obtain ⟨L, vm0, k0, X, e, N, hS, hk, HD⟩ := X
  have hZ : Γ.Z.Warmed39 (Γ.s.setVm vm0).vm := State.Warmed39.trans hZ0 hS.1
  have hown : (Γ.s.setVm vm0).vm.findClass own = some Γ.m.cls := by rw [show (Γ.s.setVm vm0).vm = vm0 from rfl, hS.1.alike.findClass]; exact hown0
  obtain ⟨T', X', e', st'⟩ := instY X hx hZ hown w e F (g := mkF Γ.m pc Ls (.ref a :: st)) rfl rfl (hb hby hd)
  exact Go.of st' (K T' ⟨L, vm0, k0, X', e', N, hS, hk, HD⟩)
theorem W.drop {sf' : List Addr} (X : W Γ n0 T h C S (sf' ++ sf)) : W Γ n0 T h C S sf := by
  obtain ⟨L, v, k, X, e, N, a, b, H⟩ := X
  exact ⟨L, v, k, X, e, N, a, b, H.1, fun x hx => H.2 x (List.mem_append_right _ hx)⟩
theorem W.sub {sf' : List Addr} (X : W Γ n0 T h C S sf') (q : ∀ x ∈ sf, x ∈ sf') : W Γ n0 T h C S sf := by
  obtain ⟨L, v, k, X, e, N, a, b, H⟩ := X
  exact ⟨L, v, k, X, e, N, a, b, H.1, fun x hx => H.2 x (q x hx)⟩
theorem W.only {sf' : List Addr} {x : Addr} (X : W Γ n0 T h C S (sf' ++ sf)) (q : x ∈ sf') : W Γ n0 T h C S (x :: sf) := X.sub fun y hy => by
  rcases List.mem_cons.mp hy with rfl | hy
  · exact List.mem_append_left _ q
  · exact List.mem_append_right _ hy
theorem W.addE {x : Addr} {CC : String} (G : Ctx Γ Z EL own bytes maxl ret nm rm hs0) (X : W Γ n0 T h C S sf) (E : Exa Z h x CC) (h1 : CC ≠ "java/lang/String") (h2 : CC ≠ "[B") : W Γ n0 T h C S (x :: sf) := by
  obtain ⟨hx, hZ0, hown0, hby, hml, hret, hnm, hlk, hR, hsH, hzz, hel, hew⟩ := G
  subst hzz hel
  obtain ⟨L, v, k, X, e, N, a, b, H⟩ := X
  refine ⟨L, v, k, X, e, N, a, b, H.1, fun y hy => ?_⟩
  rcases List.mem_cons.mp hy with rfl | hy
  · exact ⟨E.lt, Safe.exa (State.Warmed39.trans hZ0 a.1).alike E h1 h2⟩
  · exact H.2 y hy
theorem backHeld {l : Launch} {R : Room} {p : Program} {e : Env} {below : List Frame} {s : State} {args : Array Value} {vm0 : Vm} {a0 a1 : Array Value} {y : MethodName} {maxL len Wd : Nat} {as' : Array Value} (hM : Met Z EL sf y bytes maxL ret rm as' h n0 Q) (hZ : Z.Warmed39 vm0) (wc : (Cond.code y bytes maxL ret).before a0 Z = true) (wz : (Cond.initialized y.cls).before a0 Z = true) (hf : rm.frames + 1 ≤ R.frames) (hl : Wd + (maxL + 11) + rm.locals ≤ R.locals) (hEL : EW Z a1 EL) (H : CHv Z EL vm0 h) (hs : ∀ x ∈ sf, x < h.size ∧ Safe Z EL vm0 h x) :
    BackS l R p e below (s.setVm vm0) args y len Wd (fun A a => a = as' ∧ A.U.heap = h ∧ A.cells + rm.cells ≤ R.cells ∧ A.slots + rm.slots ≤ R.slots)
      (fun A _ v B => ∃ L, ((∃ sf', Q v B.U.heap sf' ∧ ∀ x ∈ sf', x < B.U.heap.size ∧ Safe Z EL B.U.vm B.U.heap x) ∧ Fr n0 L) ∧ B.locs = A.locs ++ L ∧ B.cells = A.cells + rm.cells ∧ B.slots = A.slots + rm.slots ∧ CHr Z EL vm0 h B.U.vm B.U.heap) := by
  refine BackS.of_freeW (bytes := bytes) (maxL := maxL) (ret := ret) (E := fun _ U o U' L k n => k = rm.cells ∧ n = rm.slots ∧ (∃ v, o = .returned v ∧ (∃ sf', Q v U'.heap sf' ∧ ∀ x ∈ sf', x < U'.heap.size ∧ Safe Z EL U'.vm U'.heap x) ∧ Fr n0 L) ∧ CHr Z EL U.vm U.heap U'.vm U'.heap) (hM l) hf hl ?_ ?_ ?_ ?_ ?_
  · intro m meth c A a Y hp
    have hU : Z.Warmed39 A.U.vm := wtrans (s := s.setVm vm0) hZ Y.warmed
    exact ⟨by show (Cond.and _ .tt).before a A.U = true; rw [Cond.before_and, mv hU wc]; rfl, mv hU wc, mv hU wz, hp.2.2.1, hp.2.2.2⟩
  · intro m meth c A a g mk Y hp
    have AT := CHv.at (h := h) Y hZ hEL H
    exact ⟨hp.1, wtrans (s := s.setVm vm0) hZ Y.warmed, hp.2.1, AT.1, fun x hx => ⟨(hs x hx).1, AT.safe (hs x hx).1 (hs x hx).2⟩⟩
  · intros; trivial
  · rintro _ _ _ _ ⟨v, L, h1, h2, h3, h4⟩
    exact ⟨L, _, _, h4, rfl, rfl, ⟨v, h1, h2⟩, h3⟩
  · rintro m meth c A a g mk v t L k n Y hp - - ⟨e1, e2, ⟨v', e3, e4⟩, e5⟩
    cases e3; subst e1 e2
    refine ⟨L, e4, rfl, rfl, rfl, (CHv.at Y hZ hEL H).trans ?_⟩
    rw [← hp.2.1]; exact e5
theorem k_callS {a0 : Array Value} {idx : Nat} {y : MethodName} {by' : ByteArray} {maxL' : Nat} {ret' : Option FieldType} {rm' : Room} {ps : List FieldType} {rt : Option FieldType} {wd : Nat} {QY : Option Value → Heap → List Addr → Prop} {argsL rest : List Value} (G : Ctx Γ Z EL own bytes maxl ret nm rm hs0) (X : W Γ n0 T h C S sf) (hst : st = argsL.reverse ++ rest) (w1 : (Cond.methodLink own idx y).before a0 Z = true) (w2 : (Cond.static y).before a0 Z = true) (wz : (Cond.initialized y.cls).before a0 Z = true) (wc : (Cond.code y by' maxL' ret').before a0 Z = true) (hy : y.cls ≠ "java/lang/invoke/MethodHandle" ∧ y.cls ≠ "java/lang/invoke/VarHandle") (M : Met Z EL sf y by' maxL' ret' rm' argsL.toArray h n0 QY) (hd : decode bytes pc = .ok (.invokestatic idx, 3)) (pd : parseMethodDescriptor y.desc = some ⟨ps, rt⟩) (hn : argsL.length = ps.length) (hp : pc + 3 = pc') (hL : Ls.size = maxl) (hwd : (rest.map fun v => v.category).sum = wd) (hf : rm'.frames + 1 ≤ rm.frames) (hlo : wd + (maxL' + 11) + rm'.locals ≤ rm.locals) (hc : C + rm'.cells ≤ rm.cells) (hs : S + rm'.slots ≤ rm.slots) (K : ∀ T h' v sf', W Γ n0 T h' (C + rm'.cells) (S + rm'.slots) (sf' ++ sf) → QY v h' sf' → Go Γ n0 Q T (mkF Γ.m pc' Ls (v.toList ++ rest))) : Go Γ n0 Q T (mkF Γ.m pc Ls st) := by
  subst hp hst
  obtain ⟨hx, hZ0, hown0, hby, hml, hret, hnm, hlk, hR, hsH, hzz, hel, hew⟩ := G
  subst hzz hel
  obtain ⟨aw, hew⟩ := hew
  obtain ⟨L, vm0, k0, X, e, N, hS, hk, HD⟩ := X
  have hZ : Γ.Z.Warmed39 (Γ.s.setVm vm0).vm := State.Warmed39.trans hZ0 hS.1
  have hown : (Γ.s.setVm vm0).vm.findClass own = some Γ.m.cls := by rw [show (Γ.s.setVm vm0).vm = vm0 from rfl, hS.1.alike.findClass]; exact hown0
  obtain ⟨v1, _, ⟨T1, L1, k1, n1⟩, -, X1, hS1, hg1, ⟨Lc1, q1, l1, y1, z1, c1⟩, s1⟩ := callSS X hx hown (mvT hZ w1) (mvT hZ w2) (mvT hZ wz) (mvT hZ wc) hy (backHeld (Wd := wd) M hZ wc wz (hR ▸ hf) (hR ▸ hlo) hew HD.1.1 HD.2) (g := mkF Γ.m pc Ls (argsL.reverse ++ rest)) rfl (by rw [hml]; exact hL) (argsL := argsL) (rest := rest) (lenOf pd hn) rfl (by show 2 * 0 + _ ≤ _; omega) (hb hby hd) (fun _ _ => ⟨rfl, e, hR ▸ hc, hR ▸ hs⟩)
  dsimp only [Pt.U, Pt.locs, Pt.cells, Pt.slots] at X1 hS1 hg1 l1 y1 z1 s1 q1 c1
  subst l1 y1 z1
  obtain ⟨⟨sf1, q1, f1⟩, N1⟩ := q1
  exact Go.of (fun t k => s1.trans k) (K T1 _ v1 sf1 ⟨_, _, _, X1, rfl, Fr.app N N1, foldS hS (by rw [e]; exact hk) hS1 hg1, Nat.le_refl _, HD.1.trans c1, fun x hx => (List.mem_append.mp hx).elim (f1 x) fun m => ⟨Nat.lt_of_lt_of_le (HD.2 x m).1 c1.2.1, c1.safe (HD.2 x m).1 (HD.2 x m).2⟩⟩ q1)
theorem k_callI {a0 : Array Value} {idx : Nat} {y : MethodName} {by' : ByteArray} {maxL' : Nat} {rm' : Room} {ps : List FieldType} {rt : Option FieldType} {wd : Nat} {QY : Option Value → Heap → List Addr → Prop} {argsL rest : List Value} {a : Addr} (G : Ctx Γ Z EL own bytes maxl ret nm rm hs0) (X : W Γ n0 T h C S sf) (hst : st = argsL.reverse ++ .ref a :: rest) (hy1 : y.name = "<init>") (w1 : (Cond.methodLink own idx y).before a0 Z = true) (w2 : (Cond.instanceMethod y).before a0 Z = true) (wz : (Cond.initialized y.cls).before a0 Z = true) (wc : (Cond.code y by' maxL' none).before a0 Z = true) (hy : y.cls ≠ "java/lang/invoke/MethodHandle" ∧ y.cls ≠ "java/lang/invoke/VarHandle") (M : Met Z EL sf y by' maxL' none rm' (.ref a :: argsL).toArray h n0 QY) (hd : decode bytes pc = .ok (.invokespecial idx, 3)) (pd : parseMethodDescriptor y.desc = some ⟨ps, rt⟩) (hn : argsL.length = ps.length) (hp : pc + 3 = pc') (hL : Ls.size = maxl) (hwd : (rest.map fun v => v.category).sum = wd) (hf : rm'.frames + 1 ≤ rm.frames) (hlo : wd + (maxL' + 11) + rm'.locals ≤ rm.locals) (hc : C + rm'.cells ≤ rm.cells) (hs : S + rm'.slots ≤ rm.slots) (K : ∀ T h' v sf', W Γ n0 T h' (C + rm'.cells) (S + rm'.slots) (sf' ++ sf) → QY v h' sf' → Go Γ n0 Q T (mkF Γ.m pc' Ls (v.toList ++ rest))) : Go Γ n0 Q T (mkF Γ.m pc Ls st) := by
  subst hp hst
  obtain ⟨hx, hZ0, hown0, hby, hml, hret, hnm, hlk, hR, hsH, hzz, hel, hew⟩ := G
  subst hzz hel
  obtain ⟨aw, hew⟩ := hew
  obtain ⟨L, vm0, k0, X, e, N, hS, hk, HD⟩ := X
  have hZ : Γ.Z.Warmed39 (Γ.s.setVm vm0).vm := State.Warmed39.trans hZ0 hS.1
  have hown : (Γ.s.setVm vm0).vm.findClass own = some Γ.m.cls := by rw [show (Γ.s.setVm vm0).vm = vm0 from rfl, hS.1.alike.findClass]; exact hown0
  obtain ⟨v1, _, ⟨T1, L1, k1, n1⟩, -, X1, hS1, hg1, ⟨Lc1, q1, l1, y1, z1, c1⟩, s1⟩ := X.specialBackS hx hy1 hown (mvT hZ w1) (mvT hZ w2) (mvT hZ wc) hy (backHeld (Wd := wd) M hZ wc wz (hR ▸ hf) (hR ▸ hlo) hew HD.1.1 HD.2) (g := mkF Γ.m pc Ls (argsL.reverse ++ .ref a :: rest)) rfl (by rw [hml]; exact hL) (Steps.refl _) (a := a) (argsL := argsL) (rest := rest) (lenOf pd hn) rfl (by show 2 * 0 + _ ≤ _; omega) (hb hby hd) (fun _ _ => ⟨rfl, e, hR ▸ hc, hR ▸ hs⟩)
  dsimp only [Pt.U, Pt.locs, Pt.cells, Pt.slots] at X1 hS1 hg1 l1 y1 z1 s1 q1 c1
  subst l1 y1 z1
  obtain ⟨⟨sf1, q1, f1⟩, N1⟩ := q1
  exact Go.of (fun t k => s1.trans k) (K T1 _ v1 sf1 ⟨_, _, _, X1, rfl, Fr.app N N1, foldS hS (by rw [e]; exact hk) hS1 hg1, Nat.le_refl _, HD.1.trans c1, fun x hx => (List.mem_append.mp hx).elim (f1 x) fun m => ⟨Nat.lt_of_lt_of_le (HD.2 x m).1 c1.2.1, c1.safe (HD.2 x m).1 (HD.2 x m).2⟩⟩ q1)
theorem k_callV {a0 : Array Value} {idx : Nat} {y : MethodName} {by' : ByteArray} {maxL' : Nat} {ret' : Option FieldType} {rm' : Room} {ps : List FieldType} {rt : Option FieldType} {wd : Nat} {QY : Option Value → Heap → List Addr → Prop} {argsL rest : List Value} {a : Addr} {CC : String} {z : MethodName} (G : Ctx Γ Z EL own bytes maxl ret nm rm hs0) (X : W Γ n0 T h C S sf) (hst : st = argsL.reverse ++ .ref a :: rest) (E : Exa Z h a CC) (w1 : (Cond.methodLink own idx y).before a0 Z = true) (w2 : (Cond.declares y).before a0 Z = true) (nf : ∀ s : State, Z.Warmed39 s.vm → NotFace s y) (w3 : (Cond.selects CC y z).before a0 Z = true) (w4 : (Cond.instanceMethod z).before a0 Z = true) (wz : (Cond.initialized z.cls).before a0 Z = true) (wc : (Cond.code z by' maxL' ret').before a0 Z = true) (hy : y.cls ≠ "java/lang/invoke/MethodHandle" ∧ y.cls ≠ "java/lang/invoke/VarHandle") (M : Met Z EL sf z by' maxL' ret' rm' (.ref a :: argsL).toArray h n0 QY) (hd : decode bytes pc = .ok (.invokevirtual idx, 3)) (pd : parseMethodDescriptor y.desc = some ⟨ps, rt⟩) (hn : argsL.length = ps.length) (hp : pc + 3 = pc') (hL : Ls.size = maxl) (hwd : (rest.map fun v => v.category).sum = wd) (hf : rm'.frames + 1 ≤ rm.frames) (hlo : wd + (maxL' + 11) + rm'.locals ≤ rm.locals) (hc : C + rm'.cells ≤ rm.cells) (hs : S + rm'.slots ≤ rm.slots) (K : ∀ T h' v sf', W Γ n0 T h' (C + rm'.cells) (S + rm'.slots) (sf' ++ sf) → QY v h' sf' → Go Γ n0 Q T (mkF Γ.m pc' Ls (v.toList ++ rest))) : Go Γ n0 Q T (mkF Γ.m pc Ls st) := by
  subst hp hst
  obtain ⟨hx, hZ0, hown0, hby, hml, hret, hnm, hlk, hR, hsH, hzz, hel, hew⟩ := G
  subst hzz hel
  obtain ⟨aw, hew⟩ := hew
  obtain ⟨L, vm0, k0, X, e, N, hS, hk, HD⟩ := X
  have hZ : Γ.Z.Warmed39 (Γ.s.setVm vm0).vm := State.Warmed39.trans hZ0 hS.1
  have hown : (Γ.s.setVm vm0).vm.findClass own = some Γ.m.cls := by rw [show (Γ.s.setVm vm0).vm = vm0 from rfl, hS.1.alike.findClass]; exact hown0
  obtain ⟨cq, kq, qa, qb, qc⟩ := isOf hZ e E
  obtain ⟨v1, _, ⟨T1, L1, k1, n1⟩, -, X1, hS1, hg1, ⟨Lc1, q1, l1, y1, z1, c1⟩, s1⟩ := X.virtualBackS hx hown (mvT hZ w1) (mvT hZ w2) (nf _ hZ) (mvT hZ w3) (mvT hZ w4) hy (backHeld (Wd := wd) M hZ wc wz (hR ▸ hf) (hR ▸ hlo) hew HD.1.1 HD.2) qa qc (g := mkF Γ.m pc Ls (argsL.reverse ++ .ref a :: rest)) rfl (by rw [hml]; exact hL) (Steps.refl _) (argsL := argsL) (rest := rest) (lenOf pd hn) rfl (by show 2 * 0 + _ ≤ _; omega) (hb hby hd) (fun _ _ => ⟨rfl, e, hR ▸ hc, hR ▸ hs⟩)
  dsimp only [Pt.U, Pt.locs, Pt.cells, Pt.slots] at X1 hS1 hg1 l1 y1 z1 s1 q1 c1
  subst l1 y1 z1
  obtain ⟨⟨sf1, q1, f1⟩, N1⟩ := q1
  exact Go.of (fun t k => s1.trans k) (K T1 _ v1 sf1 ⟨_, _, _, X1, rfl, Fr.app N N1, foldS hS (by rw [e]; exact hk) hS1 hg1, Nat.le_refl _, HD.1.trans c1, fun x hx => (List.mem_append.mp hx).elim (f1 x) fun m => ⟨Nat.lt_of_lt_of_le (HD.2 x m).1 c1.2.1, c1.safe (HD.2 x m).1 (HD.2 x m).2⟩⟩ q1)
theorem nf_sel {a0 : Array Value} {CC : String} {y : MethodName} (w3 : (Cond.selects CC y y).before a0 Z = true) : ∀ s : State, Z.Warmed39 s.vm → NotFace s y := fun s hZ => notFace_of_selects (args := #[]) (mvT hZ w3)
theorem k_callVU {a0 : Array Value} {idx : Nat} {y : MethodName} {by' : ByteArray} {maxL' : Nat} {ret' : Option FieldType} {rm' : Room} {ps : List FieldType} {rt : Option FieldType} {wd : Nat} {QY : Option Value → Heap → List Addr → Prop} {argsL rest : List Value} {a : Addr} {CC owner : String} {z : MethodName} (G : Ctx Γ Z EL own bytes maxl ret nm rm hs0) (X : W Γ n0 T h C S sf) (hst : st = argsL.reverse ++ .ref a :: rest) (E : Exa Z h a CC) (w1 : (Cond.methodLink own idx y).before a0 Z = true) (ws : (Cond.sameMethod y.cls owner y.name y.desc).before a0 Z = true) (w2 : (Cond.declares ⟨owner, y.name, y.desc⟩).before a0 Z = true) (w3 : (Cond.selects CC y z).before a0 Z = true) (w4 : (Cond.instanceMethod z).before a0 Z = true) (wz : (Cond.initialized z.cls).before a0 Z = true) (wc : (Cond.code z by' maxL' ret').before a0 Z = true) (hy : owner ≠ "java/lang/invoke/MethodHandle" ∧ owner ≠ "java/lang/invoke/VarHandle") (M : Met Z EL sf z by' maxL' ret' rm' (.ref a :: argsL).toArray h n0 QY) (hd : decode bytes pc = .ok (.invokevirtual idx, 3)) (pd : parseMethodDescriptor y.desc = some ⟨ps, rt⟩) (hn : argsL.length = ps.length) (hp : pc + 3 = pc') (hL : Ls.size = maxl) (hwd : (rest.map fun v => v.category).sum = wd) (hf : rm'.frames + 1 ≤ rm.frames) (hlo : wd + (maxL' + 11) + rm'.locals ≤ rm.locals) (hc : C + rm'.cells ≤ rm.cells) (hs : S + rm'.slots ≤ rm.slots) (K : ∀ T h' v sf', W Γ n0 T h' (C + rm'.cells) (S + rm'.slots) (sf' ++ sf) → QY v h' sf' → Go Γ n0 Q T (mkF Γ.m pc' Ls (v.toList ++ rest))) : Go Γ n0 Q T (mkF Γ.m pc Ls st) := by
  subst hp hst
  obtain ⟨hx, hZ0, hown0, hby, hml, hret, hnm, hlk, hR, hsH, hzz, hel, hew⟩ := G
  subst hzz hel
  obtain ⟨aw, hew⟩ := hew
  obtain ⟨L, vm0, k0, X, e, N, hS, hk, HD⟩ := X
  have hZ : Γ.Z.Warmed39 (Γ.s.setVm vm0).vm := State.Warmed39.trans hZ0 hS.1
  have hown : (Γ.s.setVm vm0).vm.findClass own = some Γ.m.cls := by rw [show (Γ.s.setVm vm0).vm = vm0 from rfl, hS.1.alike.findClass]; exact hown0
  obtain ⟨cq, kq, qa, qb, qc⟩ := isOf hZ e E
  obtain ⟨v1, _, ⟨T1, L1, k1, n1⟩, -, X1, hS1, hg1, ⟨Lc1, q1, l1, y1, z1, c1⟩, s1⟩ := X.virtualBackUpS hx hown (mvT hZ w1) (mvT hZ ws) (mvT hZ w2) hy (mvT hZ w3) (mvT hZ w4) (backHeld (Wd := wd) M hZ wc wz (hR ▸ hf) (hR ▸ hlo) hew HD.1.1 HD.2) qa qc (g := mkF Γ.m pc Ls (argsL.reverse ++ .ref a :: rest)) rfl (by rw [hml]; exact hL) (Steps.refl _) (argsL := argsL) (rest := rest) (lenOf pd hn) rfl (by show 2 * 0 + _ ≤ _; omega) (hb hby hd) (fun _ _ => ⟨rfl, e, hR ▸ hc, hR ▸ hs⟩)
  dsimp only [Pt.U, Pt.locs, Pt.cells, Pt.slots] at X1 hS1 hg1 l1 y1 z1 s1 q1 c1
  subst l1 y1 z1
  obtain ⟨⟨sf1, q1, f1⟩, N1⟩ := q1
  exact Go.of (fun t k => s1.trans k) (K T1 _ v1 sf1 ⟨_, _, _, X1, rfl, Fr.app N N1, foldS hS (by rw [e]; exact hk) hS1 hg1, Nat.le_refl _, HD.1.trans c1, fun x hx => (List.mem_append.mp hx).elim (f1 x) fun m => ⟨Nat.lt_of_lt_of_le (HD.2 x m).1 c1.2.1, c1.safe (HD.2 x m).1 (HD.2 x m).2⟩⟩ q1)
theorem k_callF {a0 : Array Value} {idx : Nat} {y : MethodName} {by' : ByteArray} {maxL' : Nat} {ret' : Option FieldType} {rm' : Room} {ps : List FieldType} {rt : Option FieldType} {wd : Nat} {QY : Option Value → Heap → List Addr → Prop} {argsL rest : List Value} {a : Addr} {CC : String} {z : MethodName} {cnt : Nat} (G : Ctx Γ Z EL own bytes maxl ret nm rm hs0) (X : W Γ n0 T h C S sf) (hst : st = argsL.reverse ++ .ref a :: rest) (E : Exa Z h a CC) (w1 : (Cond.methodLink own idx y).before a0 Z = true) (w2 : (Cond.declares y).before a0 Z = true) (wf : (Cond.interfaceMethod y.cls y.cls y.name y.desc).before a0 Z = true) (hwf : ((Cond.interfaceMethod y.cls y.cls y.name y.desc).onTables && (Cond.interfaceMethod y.cls y.cls y.name y.desc).keepsFace) = true) (w3 : (Cond.selects CC y z).before a0 Z = true) (w4 : (Cond.instanceMethod z).before a0 Z = true) (wp : (Cond.publicMethod z).before a0 Z = true) (wu : (Cond.unhidden CC y.name y.desc).before a0 Z = true) (wk : (Cond.castable CC y.cls).before a0 Z = true) (wz : (Cond.initialized z.cls).before a0 Z = true) (wc : (Cond.code z by' maxL' ret').before a0 Z = true) (hy : y.cls ≠ "java/lang/invoke/MethodHandle" ∧ y.cls ≠ "java/lang/invoke/VarHandle") (M : Met Z EL sf z by' maxL' ret' rm' (.ref a :: argsL).toArray h n0 QY) (hd : decode bytes pc = .ok (.invokeinterface idx cnt, 5)) (pd : parseMethodDescriptor y.desc = some ⟨ps, rt⟩) (hn : argsL.length = ps.length) (hp : pc + 5 = pc') (hL : Ls.size = maxl) (hwd : (rest.map fun v => v.category).sum = wd) (hf : rm'.frames + 1 ≤ rm.frames) (hlo : wd + (maxL' + 11) + rm'.locals ≤ rm.locals) (hc : C + rm'.cells ≤ rm.cells) (hs : S + rm'.slots ≤ rm.slots) (K : ∀ T h' v sf', W Γ n0 T h' (C + rm'.cells) (S + rm'.slots) (sf' ++ sf) → QY v h' sf' → Go Γ n0 Q T (mkF Γ.m pc' Ls (v.toList ++ rest))) : Go Γ n0 Q T (mkF Γ.m pc Ls st) := by
  subst hp hst
  obtain ⟨hx, hZ0, hown0, hby, hml, hret, hnm, hlk, hR, hsH, hzz, hel, hew⟩ := G
  subst hzz hel
  obtain ⟨aw, hew⟩ := hew
  obtain ⟨L, vm0, k0, X, e, N, hS, hk, HD⟩ := X
  have hZ : Γ.Z.Warmed39 (Γ.s.setVm vm0).vm := State.Warmed39.trans hZ0 hS.1
  have hown : (Γ.s.setVm vm0).vm.findClass own = some Γ.m.cls := by rw [show (Γ.s.setVm vm0).vm = vm0 from rfl, hS.1.alike.findClass]; exact hown0
  obtain ⟨cq, kq, qa, qb, qc⟩ := isOf hZ e E
  obtain ⟨v1, _, ⟨T1, L1, k1, n1⟩, -, X1, hS1, hg1, ⟨Lc1, q1, l1, y1, z1, c1⟩, s1⟩ := X.interfaceBackS hx hown (mvT hZ w1) (mvT hZ w2) (mvT hZ wf hwf) (mvT hZ w3) (mvT hZ w4) (mvT hZ wp) (mvT hZ wu) (mvT hZ wk) hy (backHeld (Wd := wd) M hZ wc wz (hR ▸ hf) (hR ▸ hlo) hew HD.1.1 HD.2) qa qb qc (g := mkF Γ.m pc Ls (argsL.reverse ++ .ref a :: rest)) rfl (by rw [hml]; exact hL) (Steps.refl _) (argsL := argsL) (rest := rest) (lenOf pd hn) rfl (by show 2 * 0 + _ ≤ _; omega) (hb hby hd) (fun _ _ => ⟨rfl, e, hR ▸ hc, hR ▸ hs⟩)
  dsimp only [Pt.U, Pt.locs, Pt.cells, Pt.slots] at X1 hS1 hg1 l1 y1 z1 s1 q1 c1
  subst l1 y1 z1
  obtain ⟨⟨sf1, q1, f1⟩, N1⟩ := q1
  exact Go.of (fun t k => s1.trans k) (K T1 _ v1 sf1 ⟨_, _, _, X1, rfl, Fr.app N N1, foldS hS (by rw [e]; exact hk) hS1 hg1, Nat.le_refl _, HD.1.trans c1, fun x hx => (List.mem_append.mp hx).elim (f1 x) fun m => ⟨Nat.lt_of_lt_of_le (HD.2 x m).1 c1.2.1, c1.safe (HD.2 x m).1 (HD.2 x m).2⟩⟩ q1)
theorem k_callP {a0 : Array Value} {idx : Nat} {y : MethodName} {by' : ByteArray} {maxL' : Nat} {ret' : Option FieldType} {rm' : Room} {ps : List FieldType} {rt : Option FieldType} {wd : Nat} {QY : Option Value → Heap → List Addr → Prop} {argsL rest : List Value} {a : Addr} {CC : String} (G : Ctx Γ Z EL own bytes maxl ret nm rm hs0) (X : W Γ n0 T h C S sf) (hst : st = argsL.reverse ++ .ref a :: rest) (E : Exa Z h a CC) (w1 : (Cond.methodLink own idx y).before a0 Z = true) (w2 : (Cond.instanceMethod y).before a0 Z = true) (w3 : (Cond.selects y.cls y y).before a0 Z = true) (wp : (Cond.privateMethod y).before a0 Z = true) (wz : (Cond.initialized y.cls).before a0 Z = true) (wc : (Cond.code y by' maxL' ret').before a0 Z = true) (hy : y.cls ≠ "java/lang/invoke/MethodHandle" ∧ y.cls ≠ "java/lang/invoke/VarHandle") (M : Met Z EL sf y by' maxL' ret' rm' (.ref a :: argsL).toArray h n0 QY) (hd : decode bytes pc = .ok (.invokevirtual idx, 3)) (pd : parseMethodDescriptor y.desc = some ⟨ps, rt⟩) (hn : argsL.length = ps.length) (hp : pc + 3 = pc') (hL : Ls.size = maxl) (hwd : (rest.map fun v => v.category).sum = wd) (hf : rm'.frames + 1 ≤ rm.frames) (hlo : wd + (maxL' + 11) + rm'.locals ≤ rm.locals) (hc : C + rm'.cells ≤ rm.cells) (hs : S + rm'.slots ≤ rm.slots) (K : ∀ T h' v sf', W Γ n0 T h' (C + rm'.cells) (S + rm'.slots) (sf' ++ sf) → QY v h' sf' → Go Γ n0 Q T (mkF Γ.m pc' Ls (v.toList ++ rest))) : Go Γ n0 Q T (mkF Γ.m pc Ls st) := by
  subst hp hst
  obtain ⟨hx, hZ0, hown0, hby, hml, hret, hnm, hlk, hR, hsH, hzz, hel, hew⟩ := G
  subst hzz hel
  obtain ⟨aw, hew⟩ := hew
  obtain ⟨L, vm0, k0, X, e, N, hS, hk, HD⟩ := X
  have hZ : Γ.Z.Warmed39 (Γ.s.setVm vm0).vm := State.Warmed39.trans hZ0 hS.1
  have hown : (Γ.s.setVm vm0).vm.findClass own = some Γ.m.cls := by rw [show (Γ.s.setVm vm0).vm = vm0 from rfl, hS.1.alike.findClass]; exact hown0
  obtain ⟨cq, qa, qb⟩ := E.cell
  obtain ⟨v1, _, ⟨T1, L1, k1, n1⟩, -, X1, hS1, hg1, ⟨Lc1, q1, l1, y1, z1, c1⟩, s1⟩ := X.privateBackS hx hown (mvT hZ w1) (mvT hZ w2) (mvT hZ w3) (Cond.privateMethod_at (mvP hZ wp (args := #[]))) (mvT hZ wc) hy (backHeld (Wd := wd) M hZ wc wz (hR ▸ hf) (hR ▸ hlo) hew HD.1.1 HD.2) (g := mkF Γ.m pc Ls (argsL.reverse ++ .ref a :: rest)) rfl (by rw [hml]; exact hL) (Steps.refl _) (a := a) (by rw [e]; exact qa) qb (argsL := argsL) (rest := rest) (lenOf pd hn) rfl (by show 2 * 0 + _ ≤ _; omega) (hb hby hd) (fun _ _ => ⟨rfl, e, hR ▸ hc, hR ▸ hs⟩)
  dsimp only [Pt.U, Pt.locs, Pt.cells, Pt.slots] at X1 hS1 hg1 l1 y1 z1 s1 q1 c1
  subst l1 y1 z1
  obtain ⟨⟨sf1, q1, f1⟩, N1⟩ := q1
  exact Go.of (fun t k => s1.trans k) (K T1 _ v1 sf1 ⟨_, _, _, X1, rfl, Fr.app N N1, foldS hS (by rw [e]; exact hk) hS1 hg1, Nat.le_refl _, HD.1.trans c1, fun x hx => (List.mem_append.mp hx).elim (f1 x) fun m => ⟨Nat.lt_of_lt_of_le (HD.2 x m).1 c1.2.1, c1.safe (HD.2 x m).1 (HD.2 x m).2⟩⟩ q1)
theorem k_callU {a0 : Array Value} {idx : Nat} {y : MethodName} {by' : ByteArray} {maxL' : Nat} {ret' : Option FieldType} {rm' : Room} {ps : List FieldType} {rt : Option FieldType} {wd : Nat} {QY : Option Value → Heap → List Addr → Prop} {argsL rest : List Value} {a : Addr} {KS : String} (G : Ctx Γ Z EL own bytes maxl ret nm rm hs0) (X : W Γ n0 T h C S sf) (hst : st = argsL.reverse ++ .ref a :: rest) (I : Ins Z h a KS true) (w1 : (Cond.methodLink own idx y).before a0 Z = true) (w2 : (Cond.sameMethod y.cls y.cls y.name y.desc).before a0 Z = true) (w3 : (Cond.instanceMethod y).before a0 Z = true) (w4 : (Cond.superclass own y.cls).before a0 Z = true) (hni : y.name ≠ "<init>") (wz : (Cond.initialized y.cls).before a0 Z = true) (wc : (Cond.code y by' maxL' ret').before a0 Z = true) (M : Met Z EL sf y by' maxL' ret' rm' (.ref a :: argsL).toArray h n0 QY) (hd : decode bytes pc = .ok (.invokespecial idx, 3)) (pd : parseMethodDescriptor y.desc = some ⟨ps, rt⟩) (hn : argsL.length = ps.length) (hp : pc + 3 = pc') (hL : Ls.size = maxl) (hwd : (rest.map fun v => v.category).sum = wd) (hf : rm'.frames + 1 ≤ rm.frames) (hlo : wd + (maxL' + 11) + rm'.locals ≤ rm.locals) (hc : C + rm'.cells ≤ rm.cells) (hs : S + rm'.slots ≤ rm.slots) (K : ∀ T h' v sf', W Γ n0 T h' (C + rm'.cells) (S + rm'.slots) (sf' ++ sf) → QY v h' sf' → Go Γ n0 Q T (mkF Γ.m pc' Ls (v.toList ++ rest))) : Go Γ n0 Q T (mkF Γ.m pc Ls st) := by
  subst hp hst
  obtain ⟨hx, hZ0, hown0, hby, hml, hret, hnm, hlk, hR, hsH, hzz, hel, hew⟩ := G
  subst hzz hel
  obtain ⟨aw, hew⟩ := hew
  obtain ⟨L, vm0, k0, X, e, N, hS, hk, HD⟩ := X
  have hZ : Γ.Z.Warmed39 (Γ.s.setVm vm0).vm := State.Warmed39.trans hZ0 hS.1
  have hown : (Γ.s.setVm vm0).vm.findClass own = some Γ.m.cls := by rw [show (Γ.s.setVm vm0).vm = vm0 from rfl, hS.1.alike.findClass]; exact hown0
  obtain ⟨v1, _, ⟨T1, L1, k1, n1⟩, -, X1, hS1, hg1, ⟨Lc1, q1, l1, y1, z1, c1⟩, s1⟩ := superBackS X hx hZ hown w1 w2 w3 w4 hni (backHeld (Wd := wd) M hZ wc wz (hR ▸ hf) (hR ▸ hlo) hew HD.1.1 HD.2) e I (g := mkF Γ.m pc Ls (argsL.reverse ++ .ref a :: rest)) rfl (by rw [hml]; exact hL) wc (argsL := argsL) (rest := rest) (lenOf pd hn) rfl (by show 2 * 0 + _ ≤ _; omega) (hb hby hd) (fun _ _ => ⟨rfl, e, hR ▸ hc, hR ▸ hs⟩)
  dsimp only [Pt.U, Pt.locs, Pt.cells, Pt.slots] at X1 hS1 hg1 l1 y1 z1 s1 q1 c1
  subst l1 y1 z1
  obtain ⟨⟨sf1, q1, f1⟩, N1⟩ := q1
  exact Go.of (fun t k => s1.trans k) (K T1 _ v1 sf1 ⟨_, _, _, X1, rfl, Fr.app N N1, foldS hS (by rw [e]; exact hk) hS1 hg1, Nat.le_refl _, HD.1.trans c1, fun x hx => (List.mem_append.mp hx).elim (f1 x) fun m => ⟨Nat.lt_of_lt_of_le (HD.2 x m).1 c1.2.1, c1.safe (HD.2 x m).1 (HD.2 x m).2⟩⟩ q1)
/-! ### arrays: the components by a function of their place -/
def Arf (Z : State) (h : Heap) (a : Addr) (k : ClassId) (ty : FieldType) (n : Nat) (f : Nat → Value) : Prop := ∃ c : Cell, Arr Z h a c ty ∧ c.cls = k ∧ c.slots.size = n ∧ n < 2147483648 ∧ ∀ i, i < n → c.slots[i]? = some (f i) ∧ fits ty (f i) = true
section A
variable {h' : Heap} {a b : Addr} {k : ClassId} {ty : FieldType} {n : Nat} {f g : Nat → Value} {v : Value} {sl : Nat} {ws : List Addr}
theorem Arf.lt (F : Arf Z h a k ty n f) : a < h.size := by obtain ⟨c, A, -⟩ := F; exact A.lt
theorem Arf.ext (F : Arf Z h a k ty n f) (E : Ext h h') : Arf Z h' a k ty n f := by obtain ⟨c, A, r⟩ := F; exact ⟨c, A.ext E, r⟩
theorem Arf.other (F : Arf Z h b k ty n f) (W : Wr h h' a sl v) (q : b ≠ a) : Arf Z h' b k ty n f := by obtain ⟨c, A, r⟩ := F; exact ⟨c, A.other W q, r⟩
theorem Arf.keep (F : Arf Z h a k ty n f) (K : Keep h h' ws) (q : a ∉ ws) : Arf Z h' a k ty n f := by obtain ⟨c, A, r⟩ := F; exact ⟨c, ⟨K.2.1 a c A.1 q, A.2⟩, r⟩
theorem Arf.congr (F : Arf Z h a k ty n f) (q : ∀ i, i < n → f i = g i) : Arf Z h a k ty n g := by
  obtain ⟨c, A, r1, r2, r3, H⟩ := F
  exact ⟨c, A, r1, r2, r3, fun i hi => by rw [← q i hi]; exact H i hi⟩
theorem Arf.size_lt (F : Arf Z h a k ty n f) : n < 2147483648 := by obtain ⟨c, A, r1, r2, r3, H⟩ := F; exact r3
theorem Arf.fits (F : Arf Z h a k ty n f) {i : Nat} (hi : i < n) : fits ty (f i) = true := by obtain ⟨c, A, r1, r2, r3, H⟩ := F; exact (H i hi).2
theorem idx_of {j : Int32} {i : Nat} (hj : j.toInt = i) : ¬ j < 0 ∧ j.toNatClampNeg = i := by
  rw [Int32.lt_iff_toInt_lt, show (0 : Int32).toInt = 0 from rfl, hj]
  exact ⟨by omega, by simp only [Int32.toNatClampNeg, hj]; omega⟩
theorem Arf.set (F : Arf Z h a k ty n f) {i : Nat} (W : Wr h h' a i v) (hi : i < n) (hv : Jvm.fits ty v = true) : Arf Z h' a k ty n (fun x => if x = i then v else f x) := by
  obtain ⟨c, A, r1, r2, r3, H⟩ := F
  refine ⟨_, A.same W, r1, by rw [sz_set]; exact r2, r3, fun x hx => ?_⟩
  by_cases q : x = i
  · subst q
    refine ⟨?_, by simpa using hv⟩
    simp [Cell.setSlot, r2, hx]
  · refine ⟨?_, by simpa [q] using (H x hx).2⟩
    simp only [Cell.setSlot, if_neg q]
    rw [Array.getElem?_setIfInBounds_ne (fun e => q e.symm)]; exact (H x hx).1
theorem Arf.new {z : Int32} (A : Arr Z h a (newA k ty z) ty) (hz : z.toInt = n) : Arf Z h a k ty n (fun _ => defaultValue ty) := by
  have q := idx_of hz
  refine ⟨_, A, rfl, by rw [sz_new, q.2], by have := Int32.toInt_lt z; omega, fun i hi => ⟨?_, by cases ty <;> rfl⟩⟩
  simp [newA, q.2, hi]
theorem Arf.arv (F : Arf Z h a k ty n f) {z : Int32} (hz : z.toInt = n) (dv : Value) : Arv Z h a k ty z ((List.range n).map f) dv := by
  obtain ⟨c, A, r1, r2, r3, H⟩ := F
  have q := idx_of hz
  refine ⟨c, A, r1, by rw [r2, q.2], q.1, fun i hi => ?_, fun i hi => ?_⟩
  · rw [r2] at hi; rw [(H i hi).1]; simp [List.getD_eq_getElem?_getD, hi]
  · rw [r2] at hi; have := (H i hi).2; simpa [List.getD_eq_getElem?_getD, hi] using this
theorem Arf.of_arv {z : Int32} {vs : List Value} {dv : Value} (F : Arv Z h a k ty z vs dv) (hz : z.toInt = n) (q : ∀ i, i < n → vs.getD i dv = f i) : Arf Z h a k ty n f := by
  obtain ⟨c, A, r1, r2, r3, H, G⟩ := F
  have q' := idx_of hz
  refine ⟨c, A, r1, by rw [r2, q'.2], by have := Int32.toInt_lt z; omega, fun i hi => ?_⟩
  have hi' : i < c.slots.size := by rw [r2, q'.2]; exact hi
  rw [← q i hi]; exact ⟨H i hi', G i hi'⟩
theorem Pln_arf (F : Arf Z h a k ty n f) : ∀ cell : Cell, h[a]? = some cell → cell.vm.isStatics = false := fun cell hc => by obtain ⟨c, A, -⟩ := F; cases A.1.symm.trans hc; exact A.plain
theorem Arf.sto (F : Arf Z h a k ty n f) {CC : String} {y : Addr} (O : Ovr Z k CC) (I : Ins Z h y CC true) : Sto Z h a (.ref y) := by
  obtain ⟨c, A, r1, -⟩ := F; exact Sto.ofV A r1 O I
end A

theorem k_newP {a0 : Array Value} {aty : ArrayType} {z : Int32} {n cap : Nat} (G : Ctx Γ Z EL own bytes maxl ret nm rm hs0) (X : W Γ n0 T h C S sf) (w : (Cond.arrayClass (newarray.typeOf aty)).before a0 Z = true) (hd : decode bytes pc = .ok (.newarray aty, 2)) (hp : pc + 2 = pc') (hz : z.toInt = n) (hcap : n ≤ cap) (hbig : cap * 8 ≤ 536870912) (hc : C + 1 ≤ rm.cells) (hs : S + cap ≤ rm.slots) (K : ∀ T h' a k, h.size = a → Ext h h' → Arf Z h' a k (newarray.typeOf aty) n (fun _ => defaultValue (newarray.typeOf aty)) → W Γ n0 T h' (C + 1) (S + cap) (a :: sf) → Go Γ n0 Q T (mkF Γ.m pc' Ls (.ref a :: st))) : Go Γ n0 Q T (mkF Γ.m pc Ls (.int z :: st)) := by
  subst hp
  obtain ⟨hx, hZ0, hown0, hby, hml, hret, hnm, hlk, hR, hsH, hzz, hel, hew⟩ := G
  subst hzz hel
  obtain ⟨aw, hew⟩ := hew
  obtain ⟨L, vm0, k0, X, e, N, hS, hk, HD⟩ := X
  have hZ : Γ.Z.Warmed39 (Γ.s.setVm vm0).vm := State.Warmed39.trans hZ0 hS.1
  have hown : (Γ.s.setVm vm0).vm.findClass own = some Γ.m.cls := by rw [show (Γ.s.setVm vm0).vm = vm0 from rfl, hS.1.alike.findClass]; exact hown0
  obtain ⟨T', h', k', X', e', E', A', st'⟩ := newP X hx hZ w e (g := mkF Γ.m pc Ls (.int z :: st)) rfl (hb hby hd) rfl (idx_of hz).1 (cap := cap) (by rw [(idx_of hz).2]; exact hcap) hbig (hR ▸ hc) (hR ▸ hs)
  exact Go.of st' (K T' h' _ k' rfl E' (Arf.new A' hz) ⟨L, vm0, k0, X', e', N, hS, (Nat.le_trans hk E'.1), HD.new E' A'.lt⟩)
theorem k_newR {a0 : Array Value} {idx : Nat} {CC : String} {z : Int32} {n cap : Nat} (G : Ctx Γ Z EL own bytes maxl ret nm rm hs0) (X : W Γ n0 T h C S sf) (w1 : (Cond.classLink own idx CC).before a0 Z = true) (w2 : (Cond.arrayOver (.object CC)).before a0 Z = true) (hd : decode bytes pc = .ok (.anewarray idx, 3)) (hp : pc + 3 = pc') (hz : z.toInt = n) (hcap : n ≤ cap) (hbig : cap * 8 ≤ 536870912) (hc : C + 1 ≤ rm.cells) (hs : S + cap ≤ rm.slots) (K : ∀ T h' a k, h.size = a → Ext h h' → Arf Z h' a k (.object CC) n (fun _ => .null) → Ovr Z k CC → W Γ n0 T h' (C + 1) (S + cap) (a :: sf) → Go Γ n0 Q T (mkF Γ.m pc' Ls (.ref a :: st))) : Go Γ n0 Q T (mkF Γ.m pc Ls (.int z :: st)) := by
  subst hp
  obtain ⟨hx, hZ0, hown0, hby, hml, hret, hnm, hlk, hR, hsH, hzz, hel, hew⟩ := G
  subst hzz hel
  obtain ⟨aw, hew⟩ := hew
  obtain ⟨L, vm0, k0, X, e, N, hS, hk, HD⟩ := X
  have hZ : Γ.Z.Warmed39 (Γ.s.setVm vm0).vm := State.Warmed39.trans hZ0 hS.1
  have hown : (Γ.s.setVm vm0).vm.findClass own = some Γ.m.cls := by rw [show (Γ.s.setVm vm0).vm = vm0 from rfl, hS.1.alike.findClass]; exact hown0
  obtain ⟨T', h', k', X', e', E', A', O', st'⟩ := newR X hx hZ hown w1 w2 e (g := mkF Γ.m pc Ls (.int z :: st)) rfl (hb hby hd) rfl (idx_of hz).1 (cap := cap) (by rw [(idx_of hz).2]; exact hcap) hbig (hR ▸ hc) (hR ▸ hs)
  exact Go.of st' (K T' h' _ k' rfl E' (Arf.new A' hz) O' ⟨L, vm0, k0, X', e', N, hS, (Nat.le_trans hk E'.1), HD.new E' A'.lt⟩)
theorem k_alen {a : Addr} {k : ClassId} {ty : FieldType} {n : Nat} {f : Nat → Value} {z : Int32} (G : Ctx Γ Z EL own bytes maxl ret nm rm hs0) (X : W Γ n0 T h C S sf) (F : Arf Z h a k ty n f) (hz : z.toInt = n) (hd : decode bytes pc = .ok (.arraylength, 1)) (hp : pc + 1 = pc') (K : Go Γ n0 Q T (mkF Γ.m pc' Ls (.int z :: st))) : Go Γ n0 Q T (mkF Γ.m pc Ls (.ref a :: st)) := by
  subst hp
  obtain ⟨hx, hZ0, hown0, hby, hml, hret, hnm, hlk, hR, hsH, hzz, hel, hew⟩ := G
  subst hzz hel
  obtain ⟨aw, hew⟩ := hew
  obtain ⟨L, vm0, k0, X, e, N, hS, hk, HD⟩ := X
  have hZ : Γ.Z.Warmed39 (Γ.s.setVm vm0).vm := State.Warmed39.trans hZ0 hS.1
  have hown : (Γ.s.setVm vm0).vm.findClass own = some Γ.m.cls := by rw [show (Γ.s.setVm vm0).vm = vm0 from rfl, hS.1.alike.findClass]; exact hown0
  obtain ⟨cl, A, r1, r2, r3, H⟩ := F
  have q : cl.slots.size.toInt32 = z := by rw [r2]; exact Int32.toInt_inj.mp (by rw [len_toInt r3, hz])
  rw [← q] at K
  exact Go.of (fun t k' => X.arraylength hx (by rw [e]; exact A.1) (State.isArrayOf_alike hZ.alike A.2.1) (g := mkF Γ.m pc Ls (.ref a :: st)) rfl rfl (hb hby hd) t k') K
theorem k_iaload {a : Addr} {k : ClassId} {n i : Nat} {f : Nat → Value} {j : Int32} {v : Value} (G : Ctx Γ Z EL own bytes maxl ret nm rm hs0) (X : W Γ n0 T h C S sf) (F : Arf Z h a k .int n f) (hj : j.toInt = i) (hi : i < n) (hv : f i = v) (hd : decode bytes pc = .ok (.iaload, 1)) (hp : pc + 1 = pc') (K : Go Γ n0 Q T (mkF Γ.m pc' Ls (v :: st))) : Go Γ n0 Q T (mkF Γ.m pc Ls (.int j :: .ref a :: st)) := by
  subst hp hv
  obtain ⟨hx, hZ0, hown0, hby, hml, hret, hnm, hlk, hR, hsH, hzz, hel, hew⟩ := G
  subst hzz hel
  obtain ⟨aw, hew⟩ := hew
  obtain ⟨L, vm0, k0, X, e, N, hS, hk, HD⟩ := X
  have hZ : Γ.Z.Warmed39 (Γ.s.setVm vm0).vm := State.Warmed39.trans hZ0 hS.1
  have hown : (Γ.s.setVm vm0).vm.findClass own = some Γ.m.cls := by rw [show (Γ.s.setVm vm0).vm = vm0 from rfl, hS.1.alike.findClass]; exact hown0
  obtain ⟨cl, A, r1, r2, r3, H⟩ := F
  have q := idx_of hj
  exact Go.of (fun t k' => X.iaload hx (by rw [e]; exact A.1) (State.isArrayOf_alike hZ.alike A.2.1) A.2.2 (by rw [r2, q.2]; exact fun u => u.elim q.1 (Nat.not_le.mpr hi)) (by rw [q.2]; exact (H i hi).1) (g := mkF Γ.m pc Ls (.int j :: .ref a :: st)) rfl rfl (hb hby hd) t k') K
theorem k_caload {a : Addr} {k : ClassId} {n i : Nat} {f : Nat → Value} {j : Int32} {v : Value} (G : Ctx Γ Z EL own bytes maxl ret nm rm hs0) (X : W Γ n0 T h C S sf) (F : Arf Z h a k .char n f) (hj : j.toInt = i) (hi : i < n) (hv : f i = v) (hd : decode bytes pc = .ok (.caload, 1)) (hp : pc + 1 = pc') (K : Go Γ n0 Q T (mkF Γ.m pc' Ls (v :: st))) : Go Γ n0 Q T (mkF Γ.m pc Ls (.int j :: .ref a :: st)) := by
  subst hp hv
  obtain ⟨hx, hZ0, hown0, hby, hml, hret, hnm, hlk, hR, hsH, hzz, hel, hew⟩ := G
  subst hzz hel
  obtain ⟨aw, hew⟩ := hew
  obtain ⟨L, vm0, k0, X, e, N, hS, hk, HD⟩ := X
  have hZ : Γ.Z.Warmed39 (Γ.s.setVm vm0).vm := State.Warmed39.trans hZ0 hS.1
  have hown : (Γ.s.setVm vm0).vm.findClass own = some Γ.m.cls := by rw [show (Γ.s.setVm vm0).vm = vm0 from rfl, hS.1.alike.findClass]; exact hown0
  obtain ⟨cl, A, r1, r2, r3, H⟩ := F
  have q := idx_of hj
  exact Go.of (fun t k' => X.caload hx (by rw [e]; exact A.1) (State.isArrayOf_alike hZ.alike A.2.1) A.2.2 (by rw [r2, q.2]; exact fun u => u.elim q.1 (Nat.not_le.mpr hi)) (by rw [q.2]; exact (H i hi).1) (g := mkF Γ.m pc Ls (.int j :: .ref a :: st)) rfl rfl (hb hby hd) t k') K
theorem k_saload {a : Addr} {k : ClassId} {n i : Nat} {f : Nat → Value} {j : Int32} {v : Value} (G : Ctx Γ Z EL own bytes maxl ret nm rm hs0) (X : W Γ n0 T h C S sf) (F : Arf Z h a k .short n f) (hj : j.toInt = i) (hi : i < n) (hv : f i = v) (hd : decode bytes pc = .ok (.saload, 1)) (hp : pc + 1 = pc') (K : Go Γ n0 Q T (mkF Γ.m pc' Ls (v :: st))) : Go Γ n0 Q T (mkF Γ.m pc Ls (.int j :: .ref a :: st)) := by
  subst hp hv
  obtain ⟨hx, hZ0, hown0, hby, hml, hret, hnm, hlk, hR, hsH, hzz, hel, hew⟩ := G
  subst hzz hel
  obtain ⟨aw, hew⟩ := hew
  obtain ⟨L, vm0, k0, X, e, N, hS, hk, HD⟩ := X
  have hZ : Γ.Z.Warmed39 (Γ.s.setVm vm0).vm := State.Warmed39.trans hZ0 hS.1
  have hown : (Γ.s.setVm vm0).vm.findClass own = some Γ.m.cls := by rw [show (Γ.s.setVm vm0).vm = vm0 from rfl, hS.1.alike.findClass]; exact hown0
  obtain ⟨cl, A, r1, r2, r3, H⟩ := F
  have q := idx_of hj
  exact Go.of (fun t k' => X.saload hx (by rw [e]; exact A.1) (State.isArrayOf_alike hZ.alike A.2.1) A.2.2 (by rw [r2, q.2]; exact fun u => u.elim q.1 (Nat.not_le.mpr hi)) (by rw [q.2]; exact (H i hi).1) (g := mkF Γ.m pc Ls (.int j :: .ref a :: st)) rfl rfl (hb hby hd) t k') K
theorem k_laload {a : Addr} {k : ClassId} {n i : Nat} {f : Nat → Value} {j : Int32} {v : Value} (G : Ctx Γ Z EL own bytes maxl ret nm rm hs0) (X : W Γ n0 T h C S sf) (F : Arf Z h a k .long n f) (hj : j.toInt = i) (hi : i < n) (hv : f i = v) (hd : decode bytes pc = .ok (.laload, 1)) (hp : pc + 1 = pc') (K : Go Γ n0 Q T (mkF Γ.m pc' Ls (v :: st))) : Go Γ n0 Q T (mkF Γ.m pc Ls (.int j :: .ref a :: st)) := by
  subst hp hv
  obtain ⟨hx, hZ0, hown0, hby, hml, hret, hnm, hlk, hR, hsH, hzz, hel, hew⟩ := G
  subst hzz hel
  obtain ⟨aw, hew⟩ := hew
  obtain ⟨L, vm0, k0, X, e, N, hS, hk, HD⟩ := X
  have hZ : Γ.Z.Warmed39 (Γ.s.setVm vm0).vm := State.Warmed39.trans hZ0 hS.1
  have hown : (Γ.s.setVm vm0).vm.findClass own = some Γ.m.cls := by rw [show (Γ.s.setVm vm0).vm = vm0 from rfl, hS.1.alike.findClass]; exact hown0
  obtain ⟨cl, A, r1, r2, r3, H⟩ := F
  have q := idx_of hj
  exact Go.of (fun t k' => X.laload hx (by rw [e]; exact A.1) (State.isArrayOf_alike hZ.alike A.2.1) A.2.2 (by rw [r2, q.2]; exact fun u => u.elim q.1 (Nat.not_le.mpr hi)) (by rw [q.2]; exact (H i hi).1) (g := mkF Γ.m pc Ls (.int j :: .ref a :: st)) rfl rfl (hb hby hd) t k') K
theorem k_baload {a : Addr} {k : ClassId} {n i : Nat} {f : Nat → Value} {j : Int32} {v : Value} (G : Ctx Γ Z EL own bytes maxl ret nm rm hs0) (X : W Γ n0 T h C S sf) (F : Arf Z h a k .byte n f) (hj : j.toInt = i) (hi : i < n) (hv : f i = v) (hd : decode bytes pc = .ok (.baload, 1)) (hp : pc + 1 = pc') (K : Go Γ n0 Q T (mkF Γ.m pc' Ls (v :: st))) : Go Γ n0 Q T (mkF Γ.m pc Ls (.int j :: .ref a :: st)) := by
  subst hp hv
  obtain ⟨hx, hZ0, hown0, hby, hml, hret, hnm, hlk, hR, hsH, hzz, hel, hew⟩ := G
  subst hzz hel
  obtain ⟨aw, hew⟩ := hew
  obtain ⟨L, vm0, k0, X, e, N, hS, hk, HD⟩ := X
  have hZ : Γ.Z.Warmed39 (Γ.s.setVm vm0).vm := State.Warmed39.trans hZ0 hS.1
  have hown : (Γ.s.setVm vm0).vm.findClass own = some Γ.m.cls := by rw [show (Γ.s.setVm vm0).vm = vm0 from rfl, hS.1.alike.findClass]; exact hown0
  obtain ⟨cl, A, r1, r2, r3, H⟩ := F
  have q := idx_of hj
  exact Go.of (fun t k' => X.baloadBytes hx (by rw [e]; exact A.1) (State.isArrayOf_alike hZ.alike A.2.1) A.2.2 (by rw [r2, q.2]; exact fun u => u.elim q.1 (Nat.not_le.mpr hi)) (by rw [q.2]; exact (H i hi).1) (g := mkF Γ.m pc Ls (.int j :: .ref a :: st)) rfl rfl (hb hby hd) t k') K
theorem k_aaload {a : Addr} {k : ClassId} {ty : FieldType} {n i : Nat} {f : Nat → Value} {j : Int32} {v : Value} (G : Ctx Γ Z EL own bytes maxl ret nm rm hs0) (X : W Γ n0 T h C S sf) (F : Arf Z h a k ty n f) (hty : ty.isReference = true) (hj : j.toInt = i) (hi : i < n) (hv : f i = v) (hd : decode bytes pc = .ok (.aaload, 1)) (hp : pc + 1 = pc') (K : Go Γ n0 Q T (mkF Γ.m pc' Ls (v :: st))) : Go Γ n0 Q T (mkF Γ.m pc Ls (.int j :: .ref a :: st)) := by
  subst hp hv
  obtain ⟨hx, hZ0, hown0, hby, hml, hret, hnm, hlk, hR, hsH, hzz, hel, hew⟩ := G
  subst hzz hel
  obtain ⟨aw, hew⟩ := hew
  obtain ⟨L, vm0, k0, X, e, N, hS, hk, HD⟩ := X
  have hZ : Γ.Z.Warmed39 (Γ.s.setVm vm0).vm := State.Warmed39.trans hZ0 hS.1
  have hown : (Γ.s.setVm vm0).vm.findClass own = some Γ.m.cls := by rw [show (Γ.s.setVm vm0).vm = vm0 from rfl, hS.1.alike.findClass]; exact hown0
  obtain ⟨cl, A, r1, r2, r3, H⟩ := F
  have q := idx_of hj
  exact Go.of (fun t k' => X.aaload hx (by rw [e]; exact A.1) (State.isArrayOf_alike hZ.alike A.2.1) hty A.2.2 (by rw [r2, q.2]; exact fun u => u.elim q.1 (Nat.not_le.mpr hi)) (by rw [q.2]; exact (H i hi).1) (g := mkF Γ.m pc Ls (.int j :: .ref a :: st)) rfl rfl (hb hby hd) t k') K
theorem k_iastore {a : Addr} {k : ClassId} {n i : Nat} {f : Nat → Value} {j x z : Int32} (G : Ctx Γ Z EL own bytes maxl ret nm rm hs0) (X : W Γ n0 T h C S sf) (F : Arf Z h a k .int n f) (hj : j.toInt = i) (hi : i < n) (hz : x = z) (ga : n0 ≤ a) (ms : a ∈ sf) (hd : decode bytes pc = .ok (.iastore, 1)) (hp : pc + 1 = pc') (K : ∀ T h', Wr h h' a i (.int z) → Arf Z h' a k .int n (fun x => if x = i then (.int z) else f x) → W Γ n0 T h' C S sf → Go Γ n0 Q T (mkF Γ.m pc' Ls st)) : Go Γ n0 Q T (mkF Γ.m pc Ls (.int x :: .int j :: .ref a :: st)) := by
  subst hp hz
  obtain ⟨hx, hZ0, hown0, hby, hml, hret, hnm, hlk, hR, hsH, hzz, hel, hew⟩ := G
  subst hzz hel
  obtain ⟨aw, hew⟩ := hew
  obtain ⟨L, vm0, k0, X, e, N, hS, hk, HD⟩ := X
  have hZ : Γ.Z.Warmed39 (Γ.s.setVm vm0).vm := State.Warmed39.trans hZ0 hS.1
  have hown : (Γ.s.setVm vm0).vm.findClass own = some Γ.m.cls := by rw [show (Γ.s.setVm vm0).vm = vm0 from rfl, hS.1.alike.findClass]; exact hown0
  have F0 := F
  obtain ⟨cl, A, r1, r2, r3, H⟩ := F
  have q := idx_of hj
  obtain ⟨T', h', X', e', W', st'⟩ := stI X hx hZ e A (j := j) (x := x) (by rw [r2, q.2]; exact fun u => u.elim q.1 (Nat.not_le.mpr hi)) (g := mkF Γ.m pc Ls (.int x :: .int j :: .ref a :: st)) rfl rfl (hb hby hd)
  rw [q.2] at W' X'
  exact Go.of st' (K T' h' W' (F0.set W' hi (rfl)) ⟨_, vm0, k0, X', e', Fr.snoc X' N ga, hS, (by rw [W'.size]; exact hk), HD.wr W' ms⟩)
theorem k_castore {a : Addr} {k : ClassId} {n i : Nat} {f : Nat → Value} {j x z : Int32} (G : Ctx Γ Z EL own bytes maxl ret nm rm hs0) (X : W Γ n0 T h C S sf) (F : Arf Z h a k .char n f) (hj : j.toInt = i) (hi : i < n) (hz : nar .char x = z) (ga : n0 ≤ a) (ms : a ∈ sf) (hd : decode bytes pc = .ok (.castore, 1)) (hp : pc + 1 = pc') (K : ∀ T h', Wr h h' a i (.int z) → Arf Z h' a k .char n (fun x => if x = i then (.int z) else f x) → W Γ n0 T h' C S sf → Go Γ n0 Q T (mkF Γ.m pc' Ls st)) : Go Γ n0 Q T (mkF Γ.m pc Ls (.int x :: .int j :: .ref a :: st)) := by
  subst hp hz
  obtain ⟨hx, hZ0, hown0, hby, hml, hret, hnm, hlk, hR, hsH, hzz, hel, hew⟩ := G
  subst hzz hel
  obtain ⟨aw, hew⟩ := hew
  obtain ⟨L, vm0, k0, X, e, N, hS, hk, HD⟩ := X
  have hZ : Γ.Z.Warmed39 (Γ.s.setVm vm0).vm := State.Warmed39.trans hZ0 hS.1
  have hown : (Γ.s.setVm vm0).vm.findClass own = some Γ.m.cls := by rw [show (Γ.s.setVm vm0).vm = vm0 from rfl, hS.1.alike.findClass]; exact hown0
  have F0 := F
  obtain ⟨cl, A, r1, r2, r3, H⟩ := F
  have q := idx_of hj
  obtain ⟨T', h', X', e', W', st'⟩ := stC X hx hZ e A (j := j) (x := x) (by rw [r2, q.2]; exact fun u => u.elim q.1 (Nat.not_le.mpr hi)) (g := mkF Γ.m pc Ls (.int x :: .int j :: .ref a :: st)) rfl rfl (hb hby hd)
  rw [q.2] at W' X'
  exact Go.of st' (K T' h' W' (F0.set W' hi (fits_nar_char _)) ⟨_, vm0, k0, X', e', Fr.snoc X' N ga, hS, (by rw [W'.size]; exact hk), HD.wr W' ms⟩)
theorem k_sastore {a : Addr} {k : ClassId} {n i : Nat} {f : Nat → Value} {j x z : Int32} (G : Ctx Γ Z EL own bytes maxl ret nm rm hs0) (X : W Γ n0 T h C S sf) (F : Arf Z h a k .short n f) (hj : j.toInt = i) (hi : i < n) (hz : nar .short x = z) (ga : n0 ≤ a) (ms : a ∈ sf) (hd : decode bytes pc = .ok (.sastore, 1)) (hp : pc + 1 = pc') (K : ∀ T h', Wr h h' a i (.int z) → Arf Z h' a k .short n (fun x => if x = i then (.int z) else f x) → W Γ n0 T h' C S sf → Go Γ n0 Q T (mkF Γ.m pc' Ls st)) : Go Γ n0 Q T (mkF Γ.m pc Ls (.int x :: .int j :: .ref a :: st)) := by
  subst hp hz
  obtain ⟨hx, hZ0, hown0, hby, hml, hret, hnm, hlk, hR, hsH, hzz, hel, hew⟩ := G
  subst hzz hel
  obtain ⟨aw, hew⟩ := hew
  obtain ⟨L, vm0, k0, X, e, N, hS, hk, HD⟩ := X
  have hZ : Γ.Z.Warmed39 (Γ.s.setVm vm0).vm := State.Warmed39.trans hZ0 hS.1
  have hown : (Γ.s.setVm vm0).vm.findClass own = some Γ.m.cls := by rw [show (Γ.s.setVm vm0).vm = vm0 from rfl, hS.1.alike.findClass]; exact hown0
  have F0 := F
  obtain ⟨cl, A, r1, r2, r3, H⟩ := F
  have q := idx_of hj
  obtain ⟨T', h', X', e', W', st'⟩ := stS X hx hZ e A (j := j) (x := x) (by rw [r2, q.2]; exact fun u => u.elim q.1 (Nat.not_le.mpr hi)) (g := mkF Γ.m pc Ls (.int x :: .int j :: .ref a :: st)) rfl rfl (hb hby hd)
  rw [q.2] at W' X'
  exact Go.of st' (K T' h' W' (F0.set W' hi (fits_nar_short _)) ⟨_, vm0, k0, X', e', Fr.snoc X' N ga, hS, (by rw [W'.size]; exact hk), HD.wr W' ms⟩)
theorem k_bastore {a : Addr} {k : ClassId} {n i : Nat} {f : Nat → Value} {j x z : Int32} (G : Ctx Γ Z EL own bytes maxl ret nm rm hs0) (X : W Γ n0 T h C S sf) (F : Arf Z h a k .byte n f) (hj : j.toInt = i) (hi : i < n) (hz : nar .byte x = z) (ga : n0 ≤ a) (ms : a ∈ sf) (hd : decode bytes pc = .ok (.bastore, 1)) (hp : pc + 1 = pc') (K : ∀ T h', Wr h h' a i (.int z) → Arf Z h' a k .byte n (fun x => if x = i then (.int z) else f x) → W Γ n0 T h' C S sf → Go Γ n0 Q T (mkF Γ.m pc' Ls st)) : Go Γ n0 Q T (mkF Γ.m pc Ls (.int x :: .int j :: .ref a :: st)) := by
  subst hp hz
  obtain ⟨hx, hZ0, hown0, hby, hml, hret, hnm, hlk, hR, hsH, hzz, hel, hew⟩ := G
  subst hzz hel
  obtain ⟨aw, hew⟩ := hew
  obtain ⟨L, vm0, k0, X, e, N, hS, hk, HD⟩ := X
  have hZ : Γ.Z.Warmed39 (Γ.s.setVm vm0).vm := State.Warmed39.trans hZ0 hS.1
  have hown : (Γ.s.setVm vm0).vm.findClass own = some Γ.m.cls := by rw [show (Γ.s.setVm vm0).vm = vm0 from rfl, hS.1.alike.findClass]; exact hown0
  have F0 := F
  obtain ⟨cl, A, r1, r2, r3, H⟩ := F
  have q := idx_of hj
  obtain ⟨T', h', X', e', W', st'⟩ := stB X hx hZ e A (j := j) (x := x) (by rw [r2, q.2]; exact fun u => u.elim q.1 (Nat.not_le.mpr hi)) (g := mkF Γ.m pc Ls (.int x :: .int j :: .ref a :: st)) rfl rfl (hb hby hd)
  rw [q.2] at W' X'
  exact Go.of st' (K T' h' W' (F0.set W' hi (fits_nar_byte _)) ⟨_, vm0, k0, X', e', Fr.snoc X' N ga, hS, (by rw [W'.size]; exact hk), HD.wr W' ms⟩)
theorem k_lastore {a : Addr} {k : ClassId} {n i : Nat} {f : Nat → Value} {j : Int32} {y : Int64} (G : Ctx Γ Z EL own bytes maxl ret nm rm hs0) (X : W Γ n0 T h C S sf) (F : Arf Z h a k .long n f) (hj : j.toInt = i) (hi : i < n) (ga : n0 ≤ a) (ms : a ∈ sf) (hd : decode bytes pc = .ok (.lastore, 1)) (hp : pc + 1 = pc') (K : ∀ T h', Wr h h' a i (.long y) → Arf Z h' a k .long n (fun x => if x = i then (.long y) else f x) → W Γ n0 T h' C S sf → Go Γ n0 Q T (mkF Γ.m pc' Ls st)) : Go Γ n0 Q T (mkF Γ.m pc Ls (.long y :: .int j :: .ref a :: st)) := by
  subst hp
  obtain ⟨hx, hZ0, hown0, hby, hml, hret, hnm, hlk, hR, hsH, hzz, hel, hew⟩ := G
  subst hzz hel
  obtain ⟨aw, hew⟩ := hew
  obtain ⟨L, vm0, k0, X, e, N, hS, hk, HD⟩ := X
  have hZ : Γ.Z.Warmed39 (Γ.s.setVm vm0).vm := State.Warmed39.trans hZ0 hS.1
  have hown : (Γ.s.setVm vm0).vm.findClass own = some Γ.m.cls := by rw [show (Γ.s.setVm vm0).vm = vm0 from rfl, hS.1.alike.findClass]; exact hown0
  have F0 := F
  obtain ⟨cl, A, r1, r2, r3, H⟩ := F
  have q := idx_of hj
  obtain ⟨T', h', X', e', W', st'⟩ := stJ X hx hZ e A (j := j) (x := y) (by rw [r2, q.2]; exact fun u => u.elim q.1 (Nat.not_le.mpr hi)) (g := mkF Γ.m pc Ls (.long y :: .int j :: .ref a :: st)) rfl rfl (hb hby hd)
  rw [q.2] at W' X'
  exact Go.of st' (K T' h' W' (F0.set W' hi rfl) ⟨_, vm0, k0, X', e', Fr.snoc X' N ga, hS, (by rw [W'.size]; exact hk), HD.wr W' ms⟩)
theorem k_aastore {a : Addr} {k : ClassId} {ty : FieldType} {n i : Nat} {f : Nat → Value} {j : Int32} {v : Value} (G : Ctx Γ Z EL own bytes maxl ret nm rm hs0) (X : W Γ n0 T h C S sf) (F : Arf Z h a k ty n f) (hty : ty.isReference = true) (hj : j.toInt = i) (hi : i < n) (O : Sto Z h a v) (hv : fits ty v = true) (ga : n0 ≤ a) (ms : a ∈ sf) (hd : decode bytes pc = .ok (.aastore, 1)) (hp : pc + 1 = pc') (K : ∀ T h', Wr h h' a i v → Arf Z h' a k ty n (fun x => if x = i then v else f x) → W Γ n0 T h' C S sf → Go Γ n0 Q T (mkF Γ.m pc' Ls st)) : Go Γ n0 Q T (mkF Γ.m pc Ls (v :: .int j :: .ref a :: st)) := by
  subst hp
  obtain ⟨hx, hZ0, hown0, hby, hml, hret, hnm, hlk, hR, hsH, hzz, hel, hew⟩ := G
  subst hzz hel
  obtain ⟨aw, hew⟩ := hew
  obtain ⟨L, vm0, k0, X, e, N, hS, hk, HD⟩ := X
  have hZ : Γ.Z.Warmed39 (Γ.s.setVm vm0).vm := State.Warmed39.trans hZ0 hS.1
  have hown : (Γ.s.setVm vm0).vm.findClass own = some Γ.m.cls := by rw [show (Γ.s.setVm vm0).vm = vm0 from rfl, hS.1.alike.findClass]; exact hown0
  have F0 := F
  obtain ⟨cl, A, r1, r2, r3, H⟩ := F
  have q := idx_of hj
  obtain ⟨T', h', X', e', W', st'⟩ := stR X hx hZ e A (j := j) (v := v) (by rw [r2, q.2]; exact fun u => u.elim q.1 (Nat.not_le.mpr hi)) hty O (g := mkF Γ.m pc Ls (v :: .int j :: .ref a :: st)) rfl rfl (hb hby hd)
  rw [q.2] at W' X'
  exact Go.of st' (K T' h' W' (F0.set W' hi hv) ⟨_, vm0, k0, X', e', Fr.snoc X' N ga, hS, (by rw [W'.size]; exact hk), HD.wr W' ms⟩)
theorem k_copy {a0 : Array Value} {idx : Nat} {a b : Addr} {k k' : ClassId} {ty : FieldType} {n n' sp dp nn wd : Nat} {f g : Nat → Value} {js jd jn : Int32} (G : Ctx Γ Z EL own bytes maxl ret nm rm hs0) (X : W Γ n0 T h C S sf) (F : Arf Z h a k ty n f) (F' : Arf Z h b k' ty n' g) (hty : refKind ty = false)
    (w1 : (Cond.methodLink own idx Jvm.Stand.acN).before a0 Z = true) (w2 : (Cond.native Jvm.Stand.acN).before a0 Z = true) (w3 : (Cond.static Jvm.Stand.acN).before a0 Z = true) (w4 : (Cond.initialized "java/lang/System").before a0 Z = true)
    (hjs : js.toInt = sp) (hjd : jd.toInt = dp) (hjn : jn.toInt = nn) (h1 : sp + nn ≤ n) (h2 : dp + nn ≤ n') (gb : n0 ≤ b) (ms : b ∈ sf) (hd : decode bytes pc = .ok (.invokestatic idx, 3)) (hp : pc + 3 = pc') (hL : Ls.size = maxl) (hf : 1 ≤ rm.frames) (hwd : (st.map fun v => v.category).sum = wd) (hlo : wd + (nativeFrameWords "java/lang/System" "arraycopy" 5 + 11) ≤ rm.locals)
    (K : ∀ T h', Keep h h' [b] → Arf Z h' b k' ty n' (fun i => if dp ≤ i ∧ i < dp + nn then f (sp + (i - dp)) else g i) → W Γ n0 T h' C S sf → Go Γ n0 Q T (mkF Γ.m pc' Ls st)) : Go Γ n0 Q T (mkF Γ.m pc Ls (.int jn :: .int jd :: .ref b :: .int js :: .ref a :: st)) := by
  subst hp
  obtain ⟨hx, hZ0, hown0, hby, hml, hret, hnm, hlk, hR, hsH, hzz, hel, hew⟩ := G
  subst hzz hel
  obtain ⟨aw, hew⟩ := hew
  obtain ⟨L, vm0, k0, X, e, N, hS, hk, HD⟩ := X
  have hZ : Γ.Z.Warmed39 (Γ.s.setVm vm0).vm := State.Warmed39.trans hZ0 hS.1
  have hown : (Γ.s.setVm vm0).vm.findClass own = some Γ.m.cls := by rw [show (Γ.s.setVm vm0).vm = vm0 from rfl, hS.1.alike.findClass]; exact hown0
  obtain ⟨z, hz⟩ : ∃ z : Int32, z.toInt = n := ⟨n.toInt32, len_toInt F.size_lt⟩
  obtain ⟨z', hz'⟩ : ∃ z : Int32, z.toInt = n' := ⟨n'.toInt32, len_toInt F'.size_lt⟩
  have A := F.arv hz .null
  have B := F'.arv hz' .null
  obtain ⟨qs1, qs2⟩ := idx_of hjs
  obtain ⟨qd1, qd2⟩ := idx_of hjd
  obtain ⟨qn1, qn2⟩ := idx_of hjn
  obtain ⟨T', h', L', X', e', N', K', A', st'⟩ := cpA X hx hZ hown w1 w2 w3 w4 e A B (Or.inl ⟨rfl, hty⟩) qs1 qd1 qn1 (by rw [qs2, qn2, (idx_of hz).2]; exact h1) (by rw [qd2, qn2, (idx_of hz').2]; exact h2) rfl (by rw [qd2, qn2]; simpa using h2) N gb (g := mkF Γ.m pc Ls (.int jn :: .int jd :: .ref b :: .int js :: .ref a :: st)) rfl (by rw [hml]; exact hL) rfl (hb hby hd) (hR ▸ hf) (W := wd) (by show 2 * 0 + _ ≤ _; omega) (hR ▸ hlo)
  refine Go.of st' (K T' h' K' (Arf.of_arv A' hz' fun i hi => ?_) ⟨L', vm0, k0, X', e', N', hS, Nat.le_trans hk K'.1, HD.keep K' ms⟩)
  rw [qs2, qd2, qn2]
  simp only [List.getD_eq_getElem?_getD]
  have lt : (((List.range n').map g).take dp).length = dp := by simp; omega
  by_cases c1 : i < dp
  · rw [List.append_assoc, List.getElem?_append_left (by rw [lt]; exact c1), List.getElem?_take_of_lt c1, if_neg (by omega)]
    simp [hi]
  · by_cases c2 : i < dp + nn
    · rw [List.getElem?_append_left (by rw [List.length_append, lt]; simp; omega), List.getElem?_append_right (by omega), lt, if_pos (by omega)]
      have q1 : i - dp < nn := by omega
      have q2 : sp + (i - dp) < n := by omega
      simp [q1, q2]
    · rw [List.getElem?_append_right (by rw [List.length_append, lt]; simp; omega), if_neg (by omega), List.getElem?_drop]
      have q3 : dp + nn + (i - (((List.range n').map g).take dp ++ (List.range nn).map fun i => (((List.range n).map f)[sp + i]?).getD .null).length) = i := by rw [List.length_append, lt]; simp; omega
      rw [q3]; simp [hi]
theorem k_instNull {idx : Nat} (G : Ctx Γ Z EL own bytes maxl ret nm rm hs0) (X : W Γ n0 T h C S sf) (hd : decode bytes pc = .ok (.instanceof idx, 3)) (hp : pc + 3 = pc') (K : Go Γ n0 Q T (mkF Γ.m pc' Ls (.int 0 :: st))) : Go Γ n0 Q T (mkF Γ.m pc Ls (.null :: st)) := by
  subst hp
  obtain ⟨hx, hZ0, hown0, hby, hml, hret, hnm, hlk, hR, hsH, hzz, hel, hew⟩ := G
  subst hzz hel
  obtain ⟨aw, hew⟩ := hew
  obtain ⟨L, vm0, k0, X, e, N, hS, hk, HD⟩ := X
  have hZ : Γ.Z.Warmed39 (Γ.s.setVm vm0).vm := State.Warmed39.trans hZ0 hS.1
  have hown : (Γ.s.setVm vm0).vm.findClass own = some Γ.m.cls := by rw [show (Γ.s.setVm vm0).vm = vm0 from rfl, hS.1.alike.findClass]; exact hown0
  exact Go.of (fun t k => X.instanceofNull hx (g := mkF Γ.m pc Ls (.null :: st)) rfl rfl (hb hby hd) t k) K
theorem k_castNull {idx : Nat} (G : Ctx Γ Z EL own bytes maxl ret nm rm hs0) (X : W Γ n0 T h C S sf) (hd : decode bytes pc = .ok (.checkcast idx, 3)) (hp : pc + 3 = pc') (K : Go Γ n0 Q T (mkF Γ.m pc' Ls (.null :: st))) : Go Γ n0 Q T (mkF Γ.m pc Ls (.null :: st)) := by
  subst hp
  obtain ⟨hx, hZ0, hown0, hby, hml, hret, hnm, hlk, hR, hsH, hzz, hel, hew⟩ := G
  subst hzz hel
  obtain ⟨aw, hew⟩ := hew
  obtain ⟨L, vm0, k0, X, e, N, hS, hk, HD⟩ := X
  have hZ : Γ.Z.Warmed39 (Γ.s.setVm vm0).vm := State.Warmed39.trans hZ0 hS.1
  have hown : (Γ.s.setVm vm0).vm.findClass own = some Γ.m.cls := by rw [show (Γ.s.setVm vm0).vm = vm0 from rfl, hS.1.alike.findClass]; exact hown0
  exact Go.of (fun t k => X.checkcastNull hx (g := mkF Γ.m pc Ls (.null :: st)) rfl rfl (hb hby hd) t k) K
theorem k_instN {a0 : Array Value} {idx : Nat} {KK CC : String} {a : Addr} (G : Ctx Γ Z EL own bytes maxl ret nm rm hs0) (X : W Γ n0 T h C S sf) (w : (Cond.classLink own idx KK).before a0 Z = true) (F : Ins Z hs0 a KK false) (E : Exa Z hs0 a CC) (hd : decode bytes pc = .ok (.instanceof idx, 3)) (hp : pc + 3 = pc') (K : ∀ T, W Γ n0 T h C S sf → Go Γ n0 Q T (mkF Γ.m pc' Ls (.int 0 :: st))) : Go Γ n0 Q T (mkF Γ.m pc Ls (.ref a :: st)) := by
  subst hp
  obtain ⟨hx, hZ0, hown0, hby, hml, hret, hnm, hlk, hR, hsH, hzz, hel, hew⟩ := G
  subst hzz hel
  obtain ⟨aw, hew⟩ := hew
  obtain ⟨L, vm0, k0, X, e, N, hS, hk, HD⟩ := X
  have hZ : Γ.Z.Warmed39 (Γ.s.setVm vm0).vm := State.Warmed39.trans hZ0 hS.1
  have hown : (Γ.s.setVm vm0).vm.findClass own = some Γ.m.cls := by rw [show (Γ.s.setVm vm0).vm = vm0 from rfl, hS.1.alike.findClass]; exact hown0
  obtain ⟨T', X', e', st'⟩ := instN X hx hZ hown w e (show Ins Γ.Z Γ.s.heap a KK false by rw [hsH]; exact F) (show Exa Γ.Z Γ.s.heap a CC by rw [hsH]; exact E) (g := mkF Γ.m pc Ls (.ref a :: st)) rfl rfl (hb hby hd)
  exact Go.of st' (K T' ⟨L, vm0, k0, X', e', N, hS, hk, HD⟩)
theorem k_instNo {a0 : Array Value} {idx : Nat} {KK CC : String} {a : Addr} (G : Ctx Γ Z EL own bytes maxl ret nm rm hs0) (X : W Γ n0 T h C S sf) (w : (Cond.classLink own idx KK).before a0 Z = true) (E : Exa Z h a CC) (F : ∃ c t, Z.vm.findClass CC = some c ∧ Z.vm.findClass KK = some t ∧ Z.vm.assignable c t = false) (hd : decode bytes pc = .ok (.instanceof idx, 3)) (hp : pc + 3 = pc') (K : ∀ T, W Γ n0 T h C S sf → Go Γ n0 Q T (mkF Γ.m pc' Ls (.int 0 :: st))) : Go Γ n0 Q T (mkF Γ.m pc Ls (.ref a :: st)) := by
  subst hp
  obtain ⟨hx, hZ0, hown0, hby, hml, hret, hnm, hlk, hR, hsH, hzz, hel, hew⟩ := G
  subst hzz hel
  obtain ⟨aw, hew⟩ := hew
  obtain ⟨L, vm0, k0, X, e, N, hS, hk, HD⟩ := X
  have hZ : Γ.Z.Warmed39 (Γ.s.setVm vm0).vm := State.Warmed39.trans hZ0 hS.1
  have hown : (Γ.s.setVm vm0).vm.findClass own = some Γ.m.cls := by rw [show (Γ.s.setVm vm0).vm = vm0 from rfl, hS.1.alike.findClass]; exact hown0
  obtain ⟨T', X', e', st'⟩ := instNo X hx hZ hown w e E F (g := mkF Γ.m pc Ls (.ref a :: st)) rfl rfl (hb hby hd)
  exact Go.of st' (K T' ⟨L, vm0, k0, X', e', N, hS, hk, HD⟩)
theorem selP {a0 : Array Value} {y : MethodName} {n : Nat} (wi : (Cond.instantiable y.cls n).before a0 Z = true) (wp : (Cond.privateMethod y).before a0 Z = true) (w2 : (Cond.instanceMethod y).before a0 Z = true) (hy : y.cls ≠ "java/lang/invoke/MethodHandle" ∧ y.cls ≠ "java/lang/invoke/VarHandle") : (Cond.selects y.cls y y).before a0 Z = true := by
  obtain ⟨t, kt, g0, g1, g2, gr⟩ := Cond.instantiable_spec wi
  have gi : kt.isInterface = false := by have := gr.1; simp at this; exact this.1
  exact Jvm.Stand.selects_self_of_private g0 g1 gi (Cond.privateMethod_at wp) w2 hy
theorem noInst {a0 : Array Value} {CC KK : String} {n : Nat} (w : (Cond.superclass CC "java/lang/Object").before a0 Z = true) (wo : (Cond.noSuperclass "java/lang/Object").before a0 Z = true) (wi : (Cond.instantiable KK n).before a0 Z = true) (h1 : CC ≠ KK) (h2 : "java/lang/Object" ≠ KK) : ∃ c t, Z.vm.findClass CC = some c ∧ Z.vm.findClass KK = some t ∧ Z.vm.assignable c t = false := by
  obtain ⟨t, kt, g0, g1, g2, gr⟩ := Cond.instantiable_spec wi
  have gi : kt.isInterface = false := by have := gr.1; simp at this; exact this.1
  obtain ⟨o, ko, o1, o2, o3, -⟩ := Cond.noSuperclass_spec wo
  obtain ⟨c, h0⟩ := found_sup w
  obtain ⟨p, k, kp, q1, q2, q3, q4, q5, -, q7⟩ := Cond.superclass_spec h0 w
  cases o1.symm.trans q1
  have ne1 := ids_ne h0 g0 h1
  have ne2 := ids_ne o1 g0 h2
  have n3 : ∀ fuel, Z.vm.isSubclassAux fuel c t = false := fun fuel => by
    cases fuel with
    | zero => rfl
    | succ f =>
      have n2 : Z.vm.isSubclassAux f o t = false := by
        cases f with
        | zero => rfl
        | succ f => simp [Vm.isSubclassAux, ne2, o2, o3]
      simp [Vm.isSubclassAux, ne1, q2, q4, n2]
  refine ⟨c, t, h0, g0, ?_⟩
  show Z.vm.assignableAux (255 + 1) c t = false
  simp [Vm.assignableAux, ne1, q2, g1, q5, g2, gi, Vm.isSubclass, n3]
theorem Hd.later {Γ : Cx} {vm vm1 : Vm} {h h' : Heap} {sf : List Addr} (H : Hd Γ vm h sf) (c : CHr Γ.Z Γ.EL vm h vm1 h') : Hd Γ vm1 h' sf := ⟨H.1.trans c, fun x m => ⟨Nat.lt_of_lt_of_le (H.2 x m).1 c.2.1, c.safe (H.2 x m).1 (H.2 x m).2⟩⟩
theorem k_ldcS {a0 : Array Value} {idx n : Nat} {text : String} (G : Ctx Γ Z EL own bytes maxl ret nm rm hs0) (X : W Γ n0 T h C S sf) (w : (Cond.stringLink own idx text).before a0 Z = true) (wS : ∀ a ∈ Bundle.stringAtoms, a.before a0 Z = true) (hd : decode bytes pc = .ok (.ldc idx, 2)) (hp : pc + 2 = pc') (hn : 4 * text.toList.length ≤ n) (hbig : n ≤ 536870912) (hc : C + 2 ≤ rm.cells) (hs : S + (n + 4) ≤ rm.slots) (K : ∀ T h' a, Ext h h' → W Γ n0 T h' (C + 2) (S + (n + 4)) sf → Go Γ n0 Q T (mkF Γ.m pc' Ls (.ref a :: st))) : Go Γ n0 Q T (mkF Γ.m pc Ls st) := by
  subst hp
  obtain ⟨hx, hZ0, hown0, hby, hml, hret, hnm, hlk, hR, hsH, hzz, hel, hew⟩ := G
  subst hzz hel
  obtain ⟨aw, hew⟩ := hew
  obtain ⟨L, vm0, k0, X, e, N, hS, hk, HD⟩ := X
  have hZ : Γ.Z.Warmed39 (Γ.s.setVm vm0).vm := State.Warmed39.trans hZ0 hS.1
  have hown : (Γ.s.setVm vm0).vm.findClass own = some Γ.m.cls := by rw [show (Γ.s.setVm vm0).vm = vm0 from rfl, hS.1.alike.findClass]; exact hown0
  obtain ⟨a, T', h', k1, X', e', E', hS', hk', -, -, c1, -, st'⟩ := ldcOH X hx hZ hown w wS e hS hk hew HD.1.1 (g := mkF Γ.m pc Ls st) rfl (hb hby hd) hn hbig (hR ▸ hc) (hR ▸ hs)
  exact Go.of st' (K T' h' a E' ⟨L, T'.vm, k1, X', e', N, hS', hk', HD.later c1⟩)
theorem k_ldcH {a0 : Array Value} {idx n : Nat} {text : String} {vs : List Int32} {z : Int32} (G : Ctx Γ Z EL own bytes maxl ret nm rm hs0) (X : W Γ n0 T h C S sf) (w : (Cond.stringLink own idx text).before a0 Z = true) (wS : ∀ a ∈ Bundle.stringAtoms, a.before a0 Z = true) (hmem : (own, idx) ∈ EL) (ht : (∀ c ∈ text.toList, c.toNat < 256) ∧ text.toList.map (fun c => Value.int (Jvm.Lit.byteI c.toNat.toUInt16)) = vs.map Value.int) (hz : z.toInt = vs.length) (hd : decode bytes pc = .ok (.ldc idx, 2)) (hp : pc + 2 = pc') (hn : 4 * text.toList.length ≤ n) (hbig : n ≤ 536870912) (hc : C + 2 ≤ rm.cells) (hs : S + (n + 4) ≤ rm.slots) (K : ∀ T h' a b k, Ext h h' → Exa Z h' a "java/lang/String" → Fld Z h' a "java/lang/String" "coder" "B" (.int 0) → Fld Z h' a "java/lang/String" "value" "[B" (.ref b) → Arf Z h' b k .byte vs.length (fun i => .int (vs.getD i 0)) → (∀ x ∈ sf, x ≠ a ∧ x ≠ b) → W Γ n0 T h' (C + 2) (S + (n + 4)) sf → Go Γ n0 Q T (mkF Γ.m pc' Ls (.ref a :: st))) : Go Γ n0 Q T (mkF Γ.m pc Ls st) := by
  subst hp
  obtain ⟨hx, hZ0, hown0, hby, hml, hret, hnm, hlk, hR, hsH, hzz, hel, hew⟩ := G
  subst hzz hel
  obtain ⟨aw, hew⟩ := hew
  obtain ⟨L, vm0, k0, X, e, N, hS, hk, HD⟩ := X
  have hZ : Γ.Z.Warmed39 (Γ.s.setVm vm0).vm := State.Warmed39.trans hZ0 hS.1
  have hown : (Γ.s.setVm vm0).vm.findClass own = some Γ.m.cls := by rw [show (Γ.s.setVm vm0).vm = vm0 from rfl, hS.1.alike.findClass]; exact hown0
  obtain ⟨a, T', h', k1, b, k, X', e', E', hS', hk', -, -, F1, F2, F3, F4, -, -, c1, -, hne, st'⟩ := ldcCH X hx hZ hown w wS e hS hk hew hmem HD.1.1 ht (idx_of hz).1 (by rw [(idx_of hz).2, List.length_map]) (g := mkF Γ.m pc Ls st) rfl (hb hby hd) hn hbig (hR ▸ hc) (hR ▸ hs)
  exact Go.of st' (K T' h' a b k E' F1 F2 F3 (Arf.of_arv F4 hz fun i hi => by rw [List.getD_eq_getElem?_getD, List.getD_eq_getElem?_getD, List.getElem?_map]; cases vs[i]? <;> rfl) (fun x m => hne x ((HD.later c1).2 x m).2) ⟨L, T'.vm, k1, X', e', N, hS', hk', HD.later c1⟩)
theorem W.addA {x : Addr} {k : ClassId} {ty : FieldType} {n : Nat} {f : Nat → Value} (G : Ctx Γ Z EL own bytes maxl ret nm rm hs0) (X : W Γ n0 T h C S sf) (F : Arf Z h x k ty n f) (h1 : ty ≠ .byte) : W Γ n0 T h C S (x :: sf) := by
  obtain ⟨hx, hZ0, hown0, hby, hml, hret, hnm, hlk, hR, hsH, hzz, hel, hew⟩ := G
  subst hzz hel
  obtain ⟨L, v, k, X, e, N, a, b, H⟩ := X
  refine ⟨L, v, k, X, e, N, a, b, H.1, fun y hy => ?_⟩
  rcases List.mem_cons.mp hy with rfl | hy
  · obtain ⟨cl, A, -⟩ := id F; exact ⟨F.lt, Safe.arr (State.Warmed39.trans hZ0 a.1).alike A h1⟩
  · exact H.2 y hy
/-! ### facts -/
theorem W.eq {h' : Heap} (X : W Γ n0 T h' C S sf) (e : h' = h) : W Γ n0 T h C S sf := e ▸ X
theorem Old_le (O : Old Z n0 h) : n0 ≤ h.size := by rw [← O.1]; exact O.2.1
theorem Sta_old {CC n d : String} {v : Value} (O : Old Z n0 h) (F : Sta Z Z.heap CC n d v) : Sta Z h CC n d v := F.ext O.2
theorem Fld_old {CC n d : String} {v : Value} {a : Addr} (O : Old Z n0 h) (F : Fld Z Z.heap a CC n d v) : Fld Z h a CC n d v := F.ext O.2
theorem Exa_old {CC : String} {a : Addr} (O : Old Z n0 h) (F : Exa Z Z.heap a CC) : Exa Z h a CC := F.ext O.2
theorem Sta_keep {h' : Heap} {CC n d : String} {v : Value} (F : Sta Z h CC n d v) (K : Keep h h' []) : Sta Z h' CC n d v := by
  obtain ⟨cf, i, k, f, st, cell, h1, h2, h3, h4, h5, h6, h7⟩ := F
  exact ⟨cf, i, k, f, st, cell, h1, h2, h3, h4, K.2.1 _ _ h5 nin0, h6, h7⟩
def Pln (h : Heap) (a : Addr) : Prop := ∀ cell : Cell, h[a]? = some cell → cell.vm.isStatics = false
theorem Pln_exa {a : Addr} {CC : String} (E : Exa Z h a CC) : Pln h a := fun cell hc => by obtain ⟨c1, _, h1, -, -, h4, -⟩ := E; cases h1.symm.trans hc; exact h4
theorem Pln_fld {a : Addr} {CC n d : String} {v : Value} (F : Fld Z h a CC n d v) : Pln h a := old_plain F
theorem Sta_keepL {h' : Heap} {CC n d : String} {v : Value} {ws : List Addr} (F : Sta Z h CC n d v) (K : Keep h h' ws) (q : ∀ w ∈ ws, Pln h w) : Sta Z h' CC n d v := by
  obtain ⟨cf, i, k, f, st, cell, h1, h2, h3, h4, h5, h6, h7⟩ := F
  exact ⟨cf, i, k, f, st, cell, h1, h2, h3, h4, K.2.1 _ _ h5 (fun hm => by have := q _ hm _ h5; rw [h6] at this; cases this), h6, h7⟩
end K
section Words
variable {s : State} {args : Array Value}
theorem s_exa {CC K n d : String} (hx : (Cond.exactly (Term.static CC n d) K).value args s none s [] = some true) (hi : (Cond.initialized CC).before args s = true) (hl : (Cond.laysStatic CC n d).before args s = true) : ∃ a, Sta s s.heap CC n d (.ref a) ∧ Exa s s.heap a K ∧ (Term.static CC n d).eval args s none [] s = some (.ref a) := by
  obtain ⟨a, ev⟩ := exa_v hx
  exact ⟨a, Sta.start ev (Or.inr ⟨hi, hl⟩), Exa.start ev hx, ev⟩
theorem s_fldI {t : Term} {a : Addr} {O n d : String} {z : Int32} (ev : t.eval args s none [] s = some (.ref a)) (hx : (Cond.eq (Term.field t O n d) (Term.int z)).value args s none s [] = some true) : Fld s s.heap a O n d (.int z) := by
  refine Fld.start ?_
  rw [← fld_at (args := args) (first := s) (o := none) (idx := []) ev]
  simp only [Cond.value, Term.int_eval] at hx
  cases hf : (Term.field t O n d).eval args s none [] s with
  | none => simp [hf] at hx
  | some v => cases v <;> simp [hf] at hx; rw [hx]
theorem s_fldN {t : Term} {a : Addr} {O n d : String} (ev : t.eval args s none [] s = some (.ref a)) (hx : (Cond.eq (Term.field t O n d) Term.null).value args s none s [] = some true) : Fld s s.heap a O n d .null := by
  refine Fld.start ?_
  rw [← fld_at (args := args) (first := s) (o := none) (idx := []) ev]
  exact null_v hx
theorem s_fldX {t : Term} {a : Addr} {O n d K : String} (ev : t.eval args s none [] s = some (.ref a)) (hx : (Cond.exactly (Term.field t O n d) K).value args s none s [] = some true) : ∃ b, Fld s s.heap a O n d (.ref b) ∧ Exa s s.heap b K := by
  obtain ⟨b, eb⟩ := exa_v hx
  refine ⟨b, Fld.start ?_, Exa.start eb hx⟩
  rw [← fld_at (args := args) (first := s) (o := none) (idx := []) ev]; exact eb
theorem len_none {t : Term} {x : Addr} {cl : Cell} {first : State} {o : Option Outcome} {idx : List Nat} (ht : t.eval args first o idx s = some (.ref x)) (ha : s.arrayAt? x = some cl) (hl : ¬ cl.slots.size < 2 ^ 31) : (Term.length t).eval args first o idx s = none := by simp [Term.eval, ht, ha, hl]
theorem s_arr2 {CC n d : String} {E : String} (hx : (Cond.exactly (Term.static CC n d) E).before args s = true) (hi : (Cond.initializedFor CC n d).before args s = true ∨ ((Cond.initialized CC).before args s = true ∧ (Cond.laysStatic CC n d).before args s = true)) (ha : (Cond.arrayOf (Term.static CC n d) (.object "java/lang/Object")).before args s = true) (hl : (Cond.eq (Term.length (Term.static CC n d)) (Term.int 0)).before args s = true) : ∃ a k, Sta s s.heap CC n d (.ref a) ∧ Arf s s.heap a k (.object "java/lang/Object") 0 (fun _ => .null) := by
  obtain ⟨a, ev⟩ := exa_v (Cond.before_iff.mp hx)
  obtain ⟨c, A⟩ := Arr.start ev (Cond.before_iff.mp ha)
  refine ⟨a, c.cls, Sta.start ev hi, c, A, rfl, ?_, by decide, fun i hi => absurd hi (Nat.not_lt_zero _)⟩
  have hl' := Cond.before_iff.mp hl
  have A2 := A.fin (Vm.Alike.refl _)
  by_cases hb : c.slots.size < 2 ^ 31
  · have q := gotT (Cond.eq_ints (len_f ev A2 hb) (Term.int_eval 0)) hl'
    have := congrArg Int32.toInt q
    rw [len_toInt hb, z32] at this
    omega
  · exfalso
    have : (Term.length (Term.static CC n d)).eval args s none [] s = none := len_none ev A2 hb
    simp [Cond.value, this] at hl'
theorem s_cs {CC n d : String} (h0 : (Cond.initializedFor CC n d).before args s = true) (h1 : (Cond.isInt (Term.static CC n d)).before args s = true) (h2 : (Cond.not (Cond.eq (Term.static CC n d) (Term.int 0))).before args s = true) : ∃ cs : Int32, Sta s s.heap CC n d (.int cs) ∧ cs ≠ 0 := by
  obtain ⟨x, ev⟩ := is_v (Cond.before_iff.mp h1)
  refine ⟨x, Sta.start ev (Or.inl h0), fun q => ?_⟩
  have := not_v (Cond.before_iff.mp h2)
  subst q
  rw [eq_i ev (Term.int_eval 0) rfl] at this
  cases this
end Words
theorem lcmp_self (x : Int64) : (if x > x then (1 : Int32) else if x = x then 0 else -1) = 0 := by rw [if_neg (Int64.lt_irrefl), if_pos rfl]
theorem of_toInt {z w : Int32} (h : z.toInt = w.toInt) : z = w := Int32.toInt_inj.mp h
theorem of_toInt64 {z w : Int64} (h : z.toInt = w.toInt) : z = w := Int64.toInt_inj.mp h
theorem rgI (x : Int32) : -2147483648 ≤ x.toInt ∧ x.toInt < 2147483648 := ⟨Int32.le_toInt x, Int32.toInt_lt x⟩
theorem rgL (x : Int64) : -9223372036854775808 ≤ x.toInt ∧ x.toInt < 9223372036854775808 := ⟨Int64.le_toInt x, Int64.toInt_lt x⟩
theorem and_rng (x : Int32) {m : Int32} (k : Int) (hk : m.toInt = k) (h : 0 ≤ k) : 0 ≤ (x &&& m).toInt ∧ (x &&& m).toInt ≤ k := by subst hk; exact c_and x m h
theorem rem_rng (x : Int32) {y : Int32} (d : Int) (hy : y.toInt = d) (hd : 0 < d) (hx : 0 ≤ x.toInt) : 0 ≤ (x % y).toInt ∧ (x % y).toInt < d := by
  rw [(c_irem x y d hy).1 hx]; exact ⟨Int.emod_nonneg _ (by omega), Int.emod_lt_of_pos _ hd⟩
theorem iadd_toInt {x y : Int32} (h1 : -2147483648 ≤ x.toInt + y.toInt) (h2 : x.toInt + y.toInt < 2147483648) : (x + y).toInt = x.toInt + y.toInt := by
  have := c_iadd x y; have := rgI (x + y); omega
theorem isub_toInt {x y : Int32} (h1 : -2147483648 ≤ x.toInt - y.toInt) (h2 : x.toInt - y.toInt < 2147483648) : (x - y).toInt = x.toInt - y.toInt := by
  have := c_isub x y; have := rgI (x - y); omega
theorem ladd_toInt {x y : Int64} (h1 : -9223372036854775808 ≤ x.toInt + y.toInt) (h2 : x.toInt + y.toInt < 9223372036854775808) : (x + y).toInt = x.toInt + y.toInt := by
  have := c_ladd x y; have := rgL (x + y); omega
theorem lcmp_toInt {x y : Int64} {z : Int32} (q : (if x > y then (1 : Int32) else if x = y then 0 else -1) = z) : (x.toInt < y.toInt → z.toInt = -1) ∧ (x.toInt = y.toInt → z.toInt = 0) ∧ (y.toInt < x.toInt → z.toInt = 1) := by
  subst q; exact c_lcmp x y
theorem and3 (x : Int32) : x &&& 3 = 0 ∨ x &&& 3 = 1 ∨ x &&& 3 = 2 ∨ x &&& 3 = 3 := by
  have h : ∀ b : BitVec 32, b &&& 3#32 = 0#32 ∨ b &&& 3#32 = 1#32 ∨ b &&& 3#32 = 2#32 ∨ b &&& 3#32 = 3#32 := fun b => by
    have e : (b &&& 3#32).toNat < 4 := by rw [BitVec.toNat_and]; exact Nat.lt_of_le_of_lt Nat.and_le_right (by decide)
    have : (b &&& 3#32).toNat = 0 ∨ (b &&& 3#32).toNat = 1 ∨ (b &&& 3#32).toNat = 2 ∨ (b &&& 3#32).toNat = 3 := by omega
    rcases this with q | q | q | q
    · exact Or.inl (BitVec.eq_of_toNat_eq q)
    · exact Or.inr (Or.inl (BitVec.eq_of_toNat_eq q))
    · exact Or.inr (Or.inr (Or.inl (BitVec.eq_of_toNat_eq q)))
    · exact Or.inr (Or.inr (Or.inr (BitVec.eq_of_toNat_eq q)))
  rcases h x.toBitVec with q | q | q | q
  · exact Or.inl (Int32.toBitVec_inj.mp q)
  · exact Or.inr (Or.inl (Int32.toBitVec_inj.mp q))
  · exact Or.inr (Or.inr (Or.inl (Int32.toBitVec_inj.mp q)))
  · exact Or.inr (Or.inr (Or.inr (Int32.toBitVec_inj.mp q)))
end Jvm.OwnK
namespace Jvm.Pilot.@@N@@
open Jvm Jvm.ClassFile Sem Op Lib Jvm.Free Jvm.Stand Jvm.LawKit Jvm.RoadKit Jvm.OwnK Bundle Jvm.Pilot.@@N@@.Jvm.D
abbrev HW (a0 : Array Value) (Z : State) : Prop := ∀ d ∈ tables_1, d.before a0 Z = true
section Wds
variable {a0 : Array Value} {Z : State}
theorem w0 (hw : HW a0 Z) : Jvm.Cond.before (Jvm.Cond.constant "com/example/libinvariant/libinvariant/aiger/LineFieldsHasNextPinLaw" (18 : Nat) (2147483647 : Int32)) a0 Z = true := hw _ (List.mem_of_getElem? (i := 0) rfl)
theorem w1 (hw : HW a0 Z) : Jvm.Cond.before (Jvm.Cond.arrayClass Jvm.ClassFile.FieldType.char) a0 Z = true := hw _ (List.mem_of_getElem? (i := 1) rfl)
theorem w2 (hw : HW a0 Z) : Jvm.Cond.before (Jvm.Cond.methodLink "com/example/libinvariant/libinvariant/aiger/LineFieldsHasNextPinLaw" (19 : Nat) ({ cls := "com/example/libinvariant/libinvariant/aiger/LineFieldsHasNextPinLaw", name := "ch", desc := "(II)C" } : Jvm.MethodName)) a0 Z = true := hw _ (List.mem_of_getElem? (i := 2) rfl)
theorem w3 (hw : HW a0 Z) : Jvm.Cond.before (Jvm.Cond.static ({ cls := "com/example/libinvariant/libinvariant/aiger/LineFieldsHasNextPinLaw", name := "ch", desc := "(II)C" } : Jvm.MethodName)) a0 Z = true := hw _ (List.mem_of_getElem? (i := 3) rfl)
theorem w4 (hw : HW a0 Z) : Jvm.Cond.before (Jvm.Cond.initialized "com/example/libinvariant/libinvariant/aiger/LineFieldsHasNextPinLaw") a0 Z = true := hw _ (List.mem_of_getElem? (i := 4) rfl)
theorem w5 (hw : HW a0 Z) : Jvm.Cond.before (Jvm.Cond.code ({ cls := "com/example/libinvariant/libinvariant/aiger/LineFieldsHasNextPinLaw", name := "ch", desc := "(II)C" } : Jvm.MethodName) method_2_code (2 : Nat) (Option.some Jvm.ClassFile.FieldType.char)) a0 Z = true := hw _ (List.mem_of_getElem? (i := 5) rfl)
theorem w6 (hw : HW a0 Z) : Jvm.Cond.before (Jvm.Cond.methodLink "com/example/libinvariant/libinvariant/aiger/LineFieldsHasNextPinLaw" (25 : Nat) ({ cls := "com/example/libinvariant/libinvariant/aiger/LineFieldsHasNextPinLaw", name := "str", desc := "([CI)Ljava/lang/String;" } : Jvm.MethodName)) a0 Z = true := hw _ (List.mem_of_getElem? (i := 6) rfl)
theorem w7 (hw : HW a0 Z) : Jvm.Cond.before (Jvm.Cond.static ({ cls := "com/example/libinvariant/libinvariant/aiger/LineFieldsHasNextPinLaw", name := "str", desc := "([CI)Ljava/lang/String;" } : Jvm.MethodName)) a0 Z = true := hw _ (List.mem_of_getElem? (i := 7) rfl)
theorem w8 (hw : HW a0 Z) : Jvm.Cond.before (Jvm.Cond.code ({ cls := "com/example/libinvariant/libinvariant/aiger/LineFieldsHasNextPinLaw", name := "str", desc := "([CI)Ljava/lang/String;" } : Jvm.MethodName) method_3_code (2 : Nat) (Option.some (Jvm.ClassFile.FieldType.object "java/lang/String"))) a0 Z = true := hw _ (List.mem_of_getElem? (i := 8) rfl)
theorem w9 (hw : HW a0 Z) : Jvm.Cond.before (Jvm.Cond.stringLink "com/example/libinvariant/libinvariant/aiger/LineFieldsHasNextPinLaw" (7 : Nat) "") a0 Z = true := hw _ (List.mem_of_getElem? (i := 9) rfl)
theorem w10 (hw : HW a0 Z) : Jvm.Cond.before (Jvm.Cond.initialized "java/lang/String") a0 Z = true := hw _ (List.mem_of_getElem? (i := 10) rfl)
theorem w11 (hw : HW a0 Z) : Jvm.Cond.before (Jvm.Cond.instantiable "java/lang/String" (4 : Nat)) a0 Z = true := hw _ (List.mem_of_getElem? (i := 11) rfl)
theorem w12 (hw : HW a0 Z) : Jvm.Cond.before (Jvm.Cond.arrayClass Jvm.ClassFile.FieldType.byte) a0 Z = true := hw _ (List.mem_of_getElem? (i := 12) rfl)
theorem w13 (hw : HW a0 Z) : Jvm.Cond.before (Jvm.Cond.laysFinal "java/lang/String" "java/lang/String" "value" "[B") a0 Z = true := hw _ (List.mem_of_getElem? (i := 13) rfl)
theorem w14 (hw : HW a0 Z) : Jvm.Cond.before (Jvm.Cond.laysFinal "java/lang/String" "java/lang/String" "coder" "B") a0 Z = true := hw _ (List.mem_of_getElem? (i := 14) rfl)
theorem w17 (hw : HW a0 Z) : Jvm.Cond.before (Jvm.Cond.classLink "com/example/libinvariant/libinvariant/aiger/LineFieldsHasNextPinLaw" (29 : Nat) "com/example/libinvariant/libinvariant/aiger/LineFields") a0 Z = true := hw _ (List.mem_of_getElem? (i := 17) rfl)
theorem w18 (hw : HW a0 Z) : Jvm.Cond.before (Jvm.Cond.instantiable "com/example/libinvariant/libinvariant/aiger/LineFields" (2 : Nat)) a0 Z = true := hw _ (List.mem_of_getElem? (i := 18) rfl)
theorem w19 (hw : HW a0 Z) : Jvm.Cond.before (Jvm.Cond.initialized "com/example/libinvariant/libinvariant/aiger/LineFields") a0 Z = true := hw _ (List.mem_of_getElem? (i := 19) rfl)
theorem w20 (hw : HW a0 Z) : Jvm.Cond.before (Jvm.Cond.methodLink "com/example/libinvariant/libinvariant/aiger/LineFieldsHasNextPinLaw" (31 : Nat) ({ cls := "com/example/libinvariant/libinvariant/aiger/LineFields", name := "<init>", desc := "(Ljava/lang/String;I)V" } : Jvm.MethodName)) a0 Z = true := hw _ (List.mem_of_getElem? (i := 20) rfl)
theorem w21 (hw : HW a0 Z) : Jvm.Cond.before (Jvm.Cond.instanceMethod ({ cls := "com/example/libinvariant/libinvariant/aiger/LineFields", name := "<init>", desc := "(Ljava/lang/String;I)V" } : Jvm.MethodName)) a0 Z = true := hw _ (List.mem_of_getElem? (i := 21) rfl)
theorem w22 (hw : HW a0 Z) : Jvm.Cond.before (Jvm.Cond.code ({ cls := "com/example/libinvariant/libinvariant/aiger/LineFields", name := "<init>", desc := "(Ljava/lang/String;I)V" } : Jvm.MethodName) prog_13_method_1_code (3 : Nat) (Option.none : Option Jvm.ClassFile.FieldType)) a0 Z = true := hw _ (List.mem_of_getElem? (i := 22) rfl)
theorem w23 (hw : HW a0 Z) : Jvm.Cond.before (Jvm.Cond.methodLink "com/example/libinvariant/libinvariant/aiger/LineFields" (1 : Nat) ({ cls := "java/lang/Object", name := "<init>", desc := "()V" } : Jvm.MethodName)) a0 Z = true := hw _ (List.mem_of_getElem? (i := 23) rfl)
theorem w24 (hw : HW a0 Z) : Jvm.Cond.before (Jvm.Cond.instanceMethod ({ cls := "java/lang/Object", name := "<init>", desc := "()V" } : Jvm.MethodName)) a0 Z = true := hw _ (List.mem_of_getElem? (i := 24) rfl)
theorem w25 (hw : HW a0 Z) : Jvm.Cond.before (Jvm.Cond.code ({ cls := "java/lang/Object", name := "<init>", desc := "()V" } : Jvm.MethodName) object_method_1_code (1 : Nat) (Option.none : Option Jvm.ClassFile.FieldType)) a0 Z = true := hw _ (List.mem_of_getElem? (i := 25) rfl)
theorem w26 (hw : HW a0 Z) : Jvm.Cond.before (Jvm.Cond.fieldLink "com/example/libinvariant/libinvariant/aiger/LineFields" (7 : Nat) "com/example/libinvariant/libinvariant/aiger/LineFields" "line" "Ljava/lang/String;") a0 Z = true := hw _ (List.mem_of_getElem? (i := 26) rfl)
theorem w27 (hw : HW a0 Z) : Jvm.Cond.before (Jvm.Cond.laysFinal "com/example/libinvariant/libinvariant/aiger/LineFields" "com/example/libinvariant/libinvariant/aiger/LineFields" "line" "Ljava/lang/String;") a0 Z = true := hw _ (List.mem_of_getElem? (i := 27) rfl)
theorem w28 (hw : HW a0 Z) : Jvm.Cond.before (Jvm.Cond.fieldLink "com/example/libinvariant/libinvariant/aiger/LineFields" (13 : Nat) "com/example/libinvariant/libinvariant/aiger/LineFields" "space" "I") a0 Z = true := hw _ (List.mem_of_getElem? (i := 28) rfl)
theorem w29 (hw : HW a0 Z) : Jvm.Cond.before (Jvm.Cond.lays "com/example/libinvariant/libinvariant/aiger/LineFields" "com/example/libinvariant/libinvariant/aiger/LineFields" "space" "I") a0 Z = true := hw _ (List.mem_of_getElem? (i := 29) rfl)
theorem w30 (hw : HW a0 Z) : Jvm.Cond.before (Jvm.Cond.methodLink "com/example/libinvariant/libinvariant/aiger/LineFieldsHasNextPinLaw" (34 : Nat) ({ cls := "com/example/libinvariant/libinvariant/aiger/LineFields", name := "hasNext", desc := "()Z" } : Jvm.MethodName)) a0 Z = true := hw _ (List.mem_of_getElem? (i := 30) rfl)
theorem w31 (hw : HW a0 Z) : Jvm.Cond.before (Jvm.Cond.declares ({ cls := "com/example/libinvariant/libinvariant/aiger/LineFields", name := "hasNext", desc := "()Z" } : Jvm.MethodName)) a0 Z = true := hw _ (List.mem_of_getElem? (i := 31) rfl)
theorem w32 (hw : HW a0 Z) : Jvm.Cond.before (Jvm.Cond.instanceMethod ({ cls := "com/example/libinvariant/libinvariant/aiger/LineFields", name := "hasNext", desc := "()Z" } : Jvm.MethodName)) a0 Z = true := hw _ (List.mem_of_getElem? (i := 32) rfl)
theorem w33 (hw : HW a0 Z) : Jvm.Cond.before (Jvm.Cond.selects "com/example/libinvariant/libinvariant/aiger/LineFields" ({ cls := "com/example/libinvariant/libinvariant/aiger/LineFields", name := "hasNext", desc := "()Z" } : Jvm.MethodName) ({ cls := "com/example/libinvariant/libinvariant/aiger/LineFields", name := "hasNext", desc := "()Z" } : Jvm.MethodName)) a0 Z = true := hw _ (List.mem_of_getElem? (i := 33) rfl)
theorem w34 (hw : HW a0 Z) : Jvm.Cond.before (Jvm.Cond.code ({ cls := "com/example/libinvariant/libinvariant/aiger/LineFields", name := "hasNext", desc := "()Z" } : Jvm.MethodName) prog_13_method_2_code (1 : Nat) (Option.some Jvm.ClassFile.FieldType.boolean)) a0 Z = true := hw _ (List.mem_of_getElem? (i := 34) rfl)
theorem w35 (hw : HW a0 Z) : Jvm.Cond.before (Jvm.Cond.methodLink "com/example/libinvariant/libinvariant/aiger/LineFields" (17 : Nat) ({ cls := "java/lang/String", name := "length", desc := "()I" } : Jvm.MethodName)) a0 Z = true := hw _ (List.mem_of_getElem? (i := 35) rfl)
theorem w36 (hw : HW a0 Z) : Jvm.Cond.before (Jvm.Cond.declares ({ cls := "java/lang/String", name := "length", desc := "()I" } : Jvm.MethodName)) a0 Z = true := hw _ (List.mem_of_getElem? (i := 36) rfl)
theorem w37 (hw : HW a0 Z) : Jvm.Cond.before (Jvm.Cond.instanceMethod ({ cls := "java/lang/String", name := "length", desc := "()I" } : Jvm.MethodName)) a0 Z = true := hw _ (List.mem_of_getElem? (i := 37) rfl)
theorem w38 (hw : HW a0 Z) : Jvm.Cond.before (Jvm.Cond.selects "java/lang/String" ({ cls := "java/lang/String", name := "length", desc := "()I" } : Jvm.MethodName) ({ cls := "java/lang/String", name := "length", desc := "()I" } : Jvm.MethodName)) a0 Z = true := hw _ (List.mem_of_getElem? (i := 38) rfl)
theorem w39 (hw : HW a0 Z) : Jvm.Cond.before (Jvm.Cond.code ({ cls := "java/lang/String", name := "length", desc := "()I" } : Jvm.MethodName) jdk_42_method_54_code (1 : Nat) (Option.some Jvm.ClassFile.FieldType.int)) a0 Z = true := hw _ (List.mem_of_getElem? (i := 39) rfl)
theorem w40 (hw : HW a0 Z) : Jvm.Cond.before (Jvm.Cond.fieldLink "java/lang/String" (9 : Nat) "java/lang/String" "value" "[B") a0 Z = true := hw _ (List.mem_of_getElem? (i := 40) rfl)
theorem w41 (hw : HW a0 Z) : Jvm.Cond.before (Jvm.Cond.methodLink "java/lang/String" (335 : Nat) ({ cls := "java/lang/String", name := "coder", desc := "()B" } : Jvm.MethodName)) a0 Z = true := hw _ (List.mem_of_getElem? (i := 41) rfl)
theorem w42 (hw : HW a0 Z) : Jvm.Cond.before (Jvm.Cond.declares ({ cls := "java/lang/String", name := "coder", desc := "()B" } : Jvm.MethodName)) a0 Z = true := hw _ (List.mem_of_getElem? (i := 42) rfl)
theorem w43 (hw : HW a0 Z) : Jvm.Cond.before (Jvm.Cond.instanceMethod ({ cls := "java/lang/String", name := "coder", desc := "()B" } : Jvm.MethodName)) a0 Z = true := hw _ (List.mem_of_getElem? (i := 43) rfl)
theorem w44 (hw : HW a0 Z) : Jvm.Cond.before (Jvm.Cond.selects "java/lang/String" ({ cls := "java/lang/String", name := "coder", desc := "()B" } : Jvm.MethodName) ({ cls := "java/lang/String", name := "coder", desc := "()B" } : Jvm.MethodName)) a0 Z = true := hw _ (List.mem_of_getElem? (i := 44) rfl)
theorem w45 (hw : HW a0 Z) : Jvm.Cond.before (Jvm.Cond.code ({ cls := "java/lang/String", name := "coder", desc := "()B" } : Jvm.MethodName) jdk_42_method_152_code (1 : Nat) (Option.some Jvm.ClassFile.FieldType.byte)) a0 Z = true := hw _ (List.mem_of_getElem? (i := 45) rfl)
theorem w46 (hw : HW a0 Z) : Jvm.Cond.before (Jvm.Cond.fieldLink "java/lang/String" (38 : Nat) "java/lang/String" "COMPACT_STRINGS" "Z") a0 Z = true := hw _ (List.mem_of_getElem? (i := 46) rfl)
theorem w47 (hw : HW a0 Z) : Jvm.Cond.before (Jvm.Cond.fieldLink "java/lang/String" (15 : Nat) "java/lang/String" "coder" "B") a0 Z = true := hw _ (List.mem_of_getElem? (i := 47) rfl)
theorem w48 (hw : HW a0 Z) : Jvm.Cond.before (Jvm.Cond.methodLink "com/example/libinvariant/libinvariant/aiger/LineFieldsHasNextPinLaw" (9 : Nat) ({ cls := "java/lang/String", name := "valueOf", desc := "(C)Ljava/lang/String;" } : Jvm.MethodName)) a0 Z = true := hw _ (List.mem_of_getElem? (i := 48) rfl)
theorem w49 (hw : HW a0 Z) : Jvm.Cond.before (Jvm.Cond.static ({ cls := "java/lang/String", name := "valueOf", desc := "(C)Ljava/lang/String;" } : Jvm.MethodName)) a0 Z = true := hw _ (List.mem_of_getElem? (i := 49) rfl)
theorem w50 (hw : HW a0 Z) : Jvm.Cond.before (Jvm.Cond.code ({ cls := "java/lang/String", name := "valueOf", desc := "(C)Ljava/lang/String;" } : Jvm.MethodName) jdk_42_method_139_code (1 : Nat) (Option.some (Jvm.ClassFile.FieldType.object "java/lang/String"))) a0 Z = true := hw _ (List.mem_of_getElem? (i := 50) rfl)
theorem w51 (hw : HW a0 Z) : Jvm.Cond.before (Jvm.Cond.methodLink "java/lang/String" (1015 : Nat) ({ cls := "java/lang/StringLatin1", name := "canEncode", desc := "(C)Z" } : Jvm.MethodName)) a0 Z = true := hw _ (List.mem_of_getElem? (i := 51) rfl)
theorem w52 (hw : HW a0 Z) : Jvm.Cond.before (Jvm.Cond.static ({ cls := "java/lang/StringLatin1", name := "canEncode", desc := "(C)Z" } : Jvm.MethodName)) a0 Z = true := hw _ (List.mem_of_getElem? (i := 52) rfl)
theorem w53 (hw : HW a0 Z) : Jvm.Cond.before (Jvm.Cond.initialized "java/lang/StringLatin1") a0 Z = true := hw _ (List.mem_of_getElem? (i := 53) rfl)
theorem w54 (hw : HW a0 Z) : Jvm.Cond.before (Jvm.Cond.code ({ cls := "java/lang/StringLatin1", name := "canEncode", desc := "(C)Z" } : Jvm.MethodName) jdk_43_method_3_code (1 : Nat) (Option.some Jvm.ClassFile.FieldType.boolean)) a0 Z = true := hw _ (List.mem_of_getElem? (i := 54) rfl)
theorem w55 (hw : HW a0 Z) : Jvm.Cond.before (Jvm.Cond.classLink "java/lang/String" (10 : Nat) "java/lang/String") a0 Z = true := hw _ (List.mem_of_getElem? (i := 55) rfl)
theorem w56 (hw : HW a0 Z) : Jvm.Cond.before (Jvm.Cond.methodLink "java/lang/String" (1018 : Nat) ({ cls := "java/lang/StringLatin1", name := "toBytes", desc := "(C)[B" } : Jvm.MethodName)) a0 Z = true := hw _ (List.mem_of_getElem? (i := 56) rfl)
theorem w57 (hw : HW a0 Z) : Jvm.Cond.before (Jvm.Cond.static ({ cls := "java/lang/StringLatin1", name := "toBytes", desc := "(C)[B" } : Jvm.MethodName)) a0 Z = true := hw _ (List.mem_of_getElem? (i := 57) rfl)
theorem w58 (hw : HW a0 Z) : Jvm.Cond.before (Jvm.Cond.code ({ cls := "java/lang/StringLatin1", name := "toBytes", desc := "(C)[B" } : Jvm.MethodName) jdk_43_method_46_code (1 : Nat) (Option.some (Jvm.ClassFile.FieldType.array Jvm.ClassFile.FieldType.byte))) a0 Z = true := hw _ (List.mem_of_getElem? (i := 58) rfl)
theorem w59 (hw : HW a0 Z) : Jvm.Cond.before (Jvm.Cond.methodLink "java/lang/String" (209 : Nat) ({ cls := "java/lang/String", name := "<init>", desc := "([BB)V" } : Jvm.MethodName)) a0 Z = true := hw _ (List.mem_of_getElem? (i := 59) rfl)
theorem w60 (hw : HW a0 Z) : Jvm.Cond.before (Jvm.Cond.instanceMethod ({ cls := "java/lang/String", name := "<init>", desc := "([BB)V" } : Jvm.MethodName)) a0 Z = true := hw _ (List.mem_of_getElem? (i := 60) rfl)
theorem w62 (hw : HW a0 Z) : Jvm.Cond.before (Jvm.Cond.code ({ cls := "java/lang/String", name := "<init>", desc := "([BB)V" } : Jvm.MethodName) jdk_42_method_151_code (3 : Nat) (Option.none : Option Jvm.ClassFile.FieldType)) a0 Z = true := hw _ (List.mem_of_getElem? (i := 62) rfl)
theorem w63 (hw : HW a0 Z) : Jvm.Cond.before (Jvm.Cond.methodLink "java/lang/String" (1 : Nat) ({ cls := "java/lang/Object", name := "<init>", desc := "()V" } : Jvm.MethodName)) a0 Z = true := hw _ (List.mem_of_getElem? (i := 63) rfl)
theorem w64 (hw : HW a0 Z) : Jvm.Cond.before (Jvm.Cond.classLink "com/example/libinvariant/libinvariant/aiger/LineFieldsHasNextPinLaw" (10 : Nat) "java/lang/String") a0 Z = true := hw _ (List.mem_of_getElem? (i := 64) rfl)
theorem w65 (hw : HW a0 Z) : Jvm.Cond.before (Jvm.Cond.methodLink "com/example/libinvariant/libinvariant/aiger/LineFieldsHasNextPinLaw" (15 : Nat) ({ cls := "java/lang/String", name := "<init>", desc := "([C)V" } : Jvm.MethodName)) a0 Z = true := hw _ (List.mem_of_getElem? (i := 65) rfl)
theorem w66 (hw : HW a0 Z) : Jvm.Cond.before (Jvm.Cond.instanceMethod ({ cls := "java/lang/String", name := "<init>", desc := "([C)V" } : Jvm.MethodName)) a0 Z = true := hw _ (List.mem_of_getElem? (i := 66) rfl)
theorem w67 (hw : HW a0 Z) : Jvm.Cond.before (Jvm.Cond.code ({ cls := "java/lang/String", name := "<init>", desc := "([C)V" } : Jvm.MethodName) jdk_42_method_3_code (2 : Nat) (Option.none : Option Jvm.ClassFile.FieldType)) a0 Z = true := hw _ (List.mem_of_getElem? (i := 67) rfl)
theorem w68 (hw : HW a0 Z) : Jvm.Cond.before (Jvm.Cond.methodLink "java/lang/String" (27 : Nat) ({ cls := "java/lang/String", name := "<init>", desc := "([CIILjava/lang/Void;)V" } : Jvm.MethodName)) a0 Z = true := hw _ (List.mem_of_getElem? (i := 68) rfl)
theorem w69 (hw : HW a0 Z) : Jvm.Cond.before (Jvm.Cond.instanceMethod ({ cls := "java/lang/String", name := "<init>", desc := "([CIILjava/lang/Void;)V" } : Jvm.MethodName)) a0 Z = true := hw _ (List.mem_of_getElem? (i := 69) rfl)
theorem w70 (hw : HW a0 Z) : Jvm.Cond.before (Jvm.Cond.code ({ cls := "java/lang/String", name := "<init>", desc := "([CIILjava/lang/Void;)V" } : Jvm.MethodName) jdk_42_method_149_code (6 : Nat) (Option.none : Option Jvm.ClassFile.FieldType)) a0 Z = true := hw _ (List.mem_of_getElem? (i := 70) rfl)
theorem w71 (hw : HW a0 Z) : Jvm.Cond.before (Jvm.Cond.methodLink "java/lang/String" (177 : Nat) ({ cls := "java/lang/StringUTF16", name := "compress", desc := "([CII)[B" } : Jvm.MethodName)) a0 Z = true := hw _ (List.mem_of_getElem? (i := 71) rfl)
theorem w72 (hw : HW a0 Z) : Jvm.Cond.before (Jvm.Cond.static ({ cls := "java/lang/StringUTF16", name := "compress", desc := "([CII)[B" } : Jvm.MethodName)) a0 Z = true := hw _ (List.mem_of_getElem? (i := 72) rfl)
theorem w73 (hw : HW a0 Z) : Jvm.Cond.before (Jvm.Cond.initialized "java/lang/StringUTF16") a0 Z = true := hw _ (List.mem_of_getElem? (i := 73) rfl)
theorem w74 (hw : HW a0 Z) : Jvm.Cond.before (Jvm.Cond.code ({ cls := "java/lang/StringUTF16", name := "compress", desc := "([CII)[B" } : Jvm.MethodName) jdk_52_method_16_code (6 : Nat) (Option.some (Jvm.ClassFile.FieldType.array Jvm.ClassFile.FieldType.byte))) a0 Z = true := hw _ (List.mem_of_getElem? (i := 74) rfl)
theorem w75 (hw : HW a0 Z) : Jvm.Cond.before (Jvm.Cond.methodLink "java/lang/StringUTF16" (115 : Nat) ({ cls := "java/lang/StringUTF16", name := "compress", desc := "([CI[BII)I" } : Jvm.MethodName)) a0 Z = true := hw _ (List.mem_of_getElem? (i := 75) rfl)
theorem w76 (hw : HW a0 Z) : Jvm.Cond.before (Jvm.Cond.static ({ cls := "java/lang/StringUTF16", name := "compress", desc := "([CI[BII)I" } : Jvm.MethodName)) a0 Z = true := hw _ (List.mem_of_getElem? (i := 76) rfl)
theorem w77 (hw : HW a0 Z) : Jvm.Cond.before (Jvm.Cond.code ({ cls := "java/lang/StringUTF16", name := "compress", desc := "([CI[BII)I" } : Jvm.MethodName) jdk_52_method_21_code (7 : Nat) (Option.some Jvm.ClassFile.FieldType.int)) a0 Z = true := hw _ (List.mem_of_getElem? (i := 77) rfl)
theorem w78 (hw : HW a0 Z) : Jvm.Cond.before (Jvm.Cond.methodLink "java/lang/String" (47 : Nat) ({ cls := "java/lang/StringUTF16", name := "coderFromArrayLen", desc := "([BI)B" } : Jvm.MethodName)) a0 Z = true := hw _ (List.mem_of_getElem? (i := 78) rfl)
theorem w79 (hw : HW a0 Z) : Jvm.Cond.before (Jvm.Cond.static ({ cls := "java/lang/StringUTF16", name := "coderFromArrayLen", desc := "([BI)B" } : Jvm.MethodName)) a0 Z = true := hw _ (List.mem_of_getElem? (i := 79) rfl)
theorem w80 (hw : HW a0 Z) : Jvm.Cond.before (Jvm.Cond.code ({ cls := "java/lang/StringUTF16", name := "coderFromArrayLen", desc := "([BI)B" } : Jvm.MethodName) jdk_52_method_15_code (2 : Nat) (Option.some Jvm.ClassFile.FieldType.byte)) a0 Z = true := hw _ (List.mem_of_getElem? (i := 80) rfl)
theorem w81 (hw : HW a0 Z) : Jvm.Cond.before (Jvm.Cond.stringLink "com/example/libinvariant/libinvariant/aiger/LineFieldsHasNextPinLaw" (38 : Nat) "f") a0 Z = true := hw _ (List.mem_of_getElem? (i := 81) rfl)
theorem w82 (hw : HW a0 Z) : Jvm.Cond.before (Jvm.Cond.methodLink "com/example/libinvariant/libinvariant/aiger/LineFieldsHasNextPinLaw" (40 : Nat) ({ cls := "com/example/libinvariant/libinvariant/aiger/LineFields", name := "next", desc := "(Ljava/lang/String;)I" } : Jvm.MethodName)) a0 Z = true := hw _ (List.mem_of_getElem? (i := 82) rfl)
theorem w83 (hw : HW a0 Z) : Jvm.Cond.before (Jvm.Cond.declares ({ cls := "com/example/libinvariant/libinvariant/aiger/LineFields", name := "next", desc := "(Ljava/lang/String;)I" } : Jvm.MethodName)) a0 Z = true := hw _ (List.mem_of_getElem? (i := 83) rfl)
theorem w84 (hw : HW a0 Z) : Jvm.Cond.before (Jvm.Cond.instanceMethod ({ cls := "com/example/libinvariant/libinvariant/aiger/LineFields", name := "next", desc := "(Ljava/lang/String;)I" } : Jvm.MethodName)) a0 Z = true := hw _ (List.mem_of_getElem? (i := 84) rfl)
theorem w85 (hw : HW a0 Z) : Jvm.Cond.before (Jvm.Cond.selects "com/example/libinvariant/libinvariant/aiger/LineFields" ({ cls := "com/example/libinvariant/libinvariant/aiger/LineFields", name := "next", desc := "(Ljava/lang/String;)I" } : Jvm.MethodName) ({ cls := "com/example/libinvariant/libinvariant/aiger/LineFields", name := "next", desc := "(Ljava/lang/String;)I" } : Jvm.MethodName)) a0 Z = true := hw _ (List.mem_of_getElem? (i := 85) rfl)
theorem w86 (hw : HW a0 Z) : Jvm.Cond.before (Jvm.Cond.code ({ cls := "com/example/libinvariant/libinvariant/aiger/LineFields", name := "next", desc := "(Ljava/lang/String;)I" } : Jvm.MethodName) prog_13_method_3_code (8 : Nat) (Option.some Jvm.ClassFile.FieldType.int)) a0 Z = true := hw _ (List.mem_of_getElem? (i := 86) rfl)
theorem w87 (hw : HW a0 Z) : Jvm.Cond.before (Jvm.Cond.methodLink "com/example/libinvariant/libinvariant/aiger/LineFields" (23 : Nat) ({ cls := "java/lang/String", name := "indexOf", desc := "(II)I" } : Jvm.MethodName)) a0 Z = true := hw _ (List.mem_of_getElem? (i := 87) rfl)
theorem w88 (hw : HW a0 Z) : Jvm.Cond.before (Jvm.Cond.declares ({ cls := "java/lang/String", name := "indexOf", desc := "(II)I" } : Jvm.MethodName)) a0 Z = true := hw _ (List.mem_of_getElem? (i := 88) rfl)
theorem w89 (hw : HW a0 Z) : Jvm.Cond.before (Jvm.Cond.instanceMethod ({ cls := "java/lang/String", name := "indexOf", desc := "(II)I" } : Jvm.MethodName)) a0 Z = true := hw _ (List.mem_of_getElem? (i := 89) rfl)
theorem w90 (hw : HW a0 Z) : Jvm.Cond.before (Jvm.Cond.selects "java/lang/String" ({ cls := "java/lang/String", name := "indexOf", desc := "(II)I" } : Jvm.MethodName) ({ cls := "java/lang/String", name := "indexOf", desc := "(II)I" } : Jvm.MethodName)) a0 Z = true := hw _ (List.mem_of_getElem? (i := 90) rfl)
theorem w91 (hw : HW a0 Z) : Jvm.Cond.before (Jvm.Cond.code ({ cls := "java/lang/String", name := "indexOf", desc := "(II)I" } : Jvm.MethodName) jdk_42_method_80_code (3 : Nat) (Option.some Jvm.ClassFile.FieldType.int)) a0 Z = true := hw _ (List.mem_of_getElem? (i := 91) rfl)
theorem w92 (hw : HW a0 Z) : Jvm.Cond.before (Jvm.Cond.methodLink "java/lang/String" (492 : Nat) ({ cls := "java/lang/String", name := "isLatin1", desc := "()Z" } : Jvm.MethodName)) a0 Z = true := hw _ (List.mem_of_getElem? (i := 92) rfl)
theorem w93 (hw : HW a0 Z) : Jvm.Cond.before (Jvm.Cond.declares ({ cls := "java/lang/String", name := "isLatin1", desc := "()Z" } : Jvm.MethodName)) a0 Z = true := hw _ (List.mem_of_getElem? (i := 93) rfl)
theorem w94 (hw : HW a0 Z) : Jvm.Cond.before (Jvm.Cond.instanceMethod ({ cls := "java/lang/String", name := "isLatin1", desc := "()Z" } : Jvm.MethodName)) a0 Z = true := hw _ (List.mem_of_getElem? (i := 94) rfl)
theorem w95 (hw : HW a0 Z) : Jvm.Cond.before (Jvm.Cond.selects "java/lang/String" ({ cls := "java/lang/String", name := "isLatin1", desc := "()Z" } : Jvm.MethodName) ({ cls := "java/lang/String", name := "isLatin1", desc := "()Z" } : Jvm.MethodName)) a0 Z = true := hw _ (List.mem_of_getElem? (i := 95) rfl)
theorem w96 (hw : HW a0 Z) : Jvm.Cond.before (Jvm.Cond.code ({ cls := "java/lang/String", name := "isLatin1", desc := "()Z" } : Jvm.MethodName) jdk_42_method_154_code (1 : Nat) (Option.some Jvm.ClassFile.FieldType.boolean)) a0 Z = true := hw _ (List.mem_of_getElem? (i := 96) rfl)
theorem w97 (hw : HW a0 Z) : Jvm.Cond.before (Jvm.Cond.methodLink "java/lang/String" (505 : Nat) ({ cls := "java/lang/String", name := "length", desc := "()I" } : Jvm.MethodName)) a0 Z = true := hw _ (List.mem_of_getElem? (i := 97) rfl)
theorem w98 (hw : HW a0 Z) : Jvm.Cond.before (Jvm.Cond.methodLink "java/lang/String" (637 : Nat) ({ cls := "java/lang/StringLatin1", name := "indexOf", desc := "([BIII)I" } : Jvm.MethodName)) a0 Z = true := hw _ (List.mem_of_getElem? (i := 98) rfl)
theorem w99 (hw : HW a0 Z) : Jvm.Cond.before (Jvm.Cond.static ({ cls := "java/lang/StringLatin1", name := "indexOf", desc := "([BIII)I" } : Jvm.MethodName)) a0 Z = true := hw _ (List.mem_of_getElem? (i := 99) rfl)
theorem w100 (hw : HW a0 Z) : Jvm.Cond.before (Jvm.Cond.code ({ cls := "java/lang/StringLatin1", name := "indexOf", desc := "([BIII)I" } : Jvm.MethodName) jdk_43_method_22_code (4 : Nat) (Option.some Jvm.ClassFile.FieldType.int)) a0 Z = true := hw _ (List.mem_of_getElem? (i := 100) rfl)
theorem w101 (hw : HW a0 Z) : Jvm.Cond.before (Jvm.Cond.methodLink "java/lang/StringLatin1" (88 : Nat) ({ cls := "java/lang/StringLatin1", name := "canEncode", desc := "(I)Z" } : Jvm.MethodName)) a0 Z = true := hw _ (List.mem_of_getElem? (i := 101) rfl)
theorem w102 (hw : HW a0 Z) : Jvm.Cond.before (Jvm.Cond.static ({ cls := "java/lang/StringLatin1", name := "canEncode", desc := "(I)Z" } : Jvm.MethodName)) a0 Z = true := hw _ (List.mem_of_getElem? (i := 102) rfl)
theorem w103 (hw : HW a0 Z) : Jvm.Cond.before (Jvm.Cond.code ({ cls := "java/lang/StringLatin1", name := "canEncode", desc := "(I)Z" } : Jvm.MethodName) jdk_43_method_4_code (1 : Nat) (Option.some Jvm.ClassFile.FieldType.boolean)) a0 Z = true := hw _ (List.mem_of_getElem? (i := 103) rfl)
theorem w104 (hw : HW a0 Z) : Jvm.Cond.before (Jvm.Cond.methodLink "java/lang/StringLatin1" (92 : Nat) ({ cls := "java/lang/Math", name := "max", desc := "(II)I" } : Jvm.MethodName)) a0 Z = true := hw _ (List.mem_of_getElem? (i := 104) rfl)
theorem w105 (hw : HW a0 Z) : Jvm.Cond.before (Jvm.Cond.static ({ cls := "java/lang/Math", name := "max", desc := "(II)I" } : Jvm.MethodName)) a0 Z = true := hw _ (List.mem_of_getElem? (i := 105) rfl)
theorem w106 (hw : HW a0 Z) : Jvm.Cond.before (Jvm.Cond.initialized "java/lang/Math") a0 Z = true := hw _ (List.mem_of_getElem? (i := 106) rfl)
theorem w107 (hw : HW a0 Z) : Jvm.Cond.before (Jvm.Cond.code ({ cls := "java/lang/Math", name := "max", desc := "(II)I" } : Jvm.MethodName) jdk_29_method_65_code (2 : Nat) (Option.some Jvm.ClassFile.FieldType.int)) a0 Z = true := hw _ (List.mem_of_getElem? (i := 107) rfl)
theorem w108 (hw : HW a0 Z) : Jvm.Cond.before (Jvm.Cond.methodLink "java/lang/StringLatin1" (38 : Nat) ({ cls := "java/lang/Math", name := "min", desc := "(II)I" } : Jvm.MethodName)) a0 Z = true := hw _ (List.mem_of_getElem? (i := 108) rfl)
theorem w109 (hw : HW a0 Z) : Jvm.Cond.before (Jvm.Cond.static ({ cls := "java/lang/Math", name := "min", desc := "(II)I" } : Jvm.MethodName)) a0 Z = true := hw _ (List.mem_of_getElem? (i := 109) rfl)
theorem w110 (hw : HW a0 Z) : Jvm.Cond.before (Jvm.Cond.code ({ cls := "java/lang/Math", name := "min", desc := "(II)I" } : Jvm.MethodName) jdk_29_method_69_code (2 : Nat) (Option.some Jvm.ClassFile.FieldType.int)) a0 Z = true := hw _ (List.mem_of_getElem? (i := 110) rfl)
theorem w111 (hw : HW a0 Z) : Jvm.Cond.before (Jvm.Cond.methodLink "java/lang/StringLatin1" (95 : Nat) ({ cls := "java/lang/StringLatin1", name := "indexOfChar", desc := "([BIII)I" } : Jvm.MethodName)) a0 Z = true := hw _ (List.mem_of_getElem? (i := 111) rfl)
theorem w112 (hw : HW a0 Z) : Jvm.Cond.before (Jvm.Cond.static ({ cls := "java/lang/StringLatin1", name := "indexOfChar", desc := "([BIII)I" } : Jvm.MethodName)) a0 Z = true := hw _ (List.mem_of_getElem? (i := 112) rfl)
theorem w113 (hw : HW a0 Z) : Jvm.Cond.before (Jvm.Cond.code ({ cls := "java/lang/StringLatin1", name := "indexOfChar", desc := "([BIII)I" } : Jvm.MethodName) jdk_43_method_23_code (6 : Nat) (Option.some Jvm.ClassFile.FieldType.int)) a0 Z = true := hw _ (List.mem_of_getElem? (i := 113) rfl)
theorem w114 (hw : HW a0 Z) : Jvm.Cond.before (Jvm.Cond.methodLink "com/example/libinvariant/libinvariant/aiger/LineFields" (36 : Nat) ({ cls := "java/lang/String", name := "charAt", desc := "(I)C" } : Jvm.MethodName)) a0 Z = true := hw _ (List.mem_of_getElem? (i := 114) rfl)
theorem w115 (hw : HW a0 Z) : Jvm.Cond.before (Jvm.Cond.declares ({ cls := "java/lang/String", name := "charAt", desc := "(I)C" } : Jvm.MethodName)) a0 Z = true := hw _ (List.mem_of_getElem? (i := 115) rfl)
theorem w116 (hw : HW a0 Z) : Jvm.Cond.before (Jvm.Cond.instanceMethod ({ cls := "java/lang/String", name := "charAt", desc := "(I)C" } : Jvm.MethodName)) a0 Z = true := hw _ (List.mem_of_getElem? (i := 116) rfl)
theorem w117 (hw : HW a0 Z) : Jvm.Cond.before (Jvm.Cond.selects "java/lang/String" ({ cls := "java/lang/String", name := "charAt", desc := "(I)C" } : Jvm.MethodName) ({ cls := "java/lang/String", name := "charAt", desc := "(I)C" } : Jvm.MethodName)) a0 Z = true := hw _ (List.mem_of_getElem? (i := 117) rfl)
theorem w118 (hw : HW a0 Z) : Jvm.Cond.before (Jvm.Cond.code ({ cls := "java/lang/String", name := "charAt", desc := "(I)C" } : Jvm.MethodName) jdk_42_method_56_code (2 : Nat) (Option.some Jvm.ClassFile.FieldType.char)) a0 Z = true := hw _ (List.mem_of_getElem? (i := 118) rfl)
theorem w119 (hw : HW a0 Z) : Jvm.Cond.before (Jvm.Cond.methodLink "java/lang/String" (495 : Nat) ({ cls := "java/lang/StringLatin1", name := "charAt", desc := "([BI)C" } : Jvm.MethodName)) a0 Z = true := hw _ (List.mem_of_getElem? (i := 119) rfl)
theorem w120 (hw : HW a0 Z) : Jvm.Cond.before (Jvm.Cond.static ({ cls := "java/lang/StringLatin1", name := "charAt", desc := "([BI)C" } : Jvm.MethodName)) a0 Z = true := hw _ (List.mem_of_getElem? (i := 120) rfl)
theorem w121 (hw : HW a0 Z) : Jvm.Cond.before (Jvm.Cond.code ({ cls := "java/lang/StringLatin1", name := "charAt", desc := "([BI)C" } : Jvm.MethodName) jdk_43_method_2_code (2 : Nat) (Option.some Jvm.ClassFile.FieldType.char)) a0 Z = true := hw _ (List.mem_of_getElem? (i := 121) rfl)
theorem w122 (hw : HW a0 Z) : Jvm.Cond.before (Jvm.Cond.methodLink "java/lang/StringLatin1" (9 : Nat) ({ cls := "java/lang/String", name := "checkIndex", desc := "(II)V" } : Jvm.MethodName)) a0 Z = true := hw _ (List.mem_of_getElem? (i := 122) rfl)
theorem w123 (hw : HW a0 Z) : Jvm.Cond.before (Jvm.Cond.static ({ cls := "java/lang/String", name := "checkIndex", desc := "(II)V" } : Jvm.MethodName)) a0 Z = true := hw _ (List.mem_of_getElem? (i := 123) rfl)
theorem w124 (hw : HW a0 Z) : Jvm.Cond.before (Jvm.Cond.code ({ cls := "java/lang/String", name := "checkIndex", desc := "(II)V" } : Jvm.MethodName) jdk_42_method_155_code (2 : Nat) (Option.none : Option Jvm.ClassFile.FieldType)) a0 Z = true := hw _ (List.mem_of_getElem? (i := 124) rfl)
theorem w125 (hw : HW a0 Z) : Jvm.Cond.before (Jvm.Cond.fieldLink "java/lang/String" (1053 : Nat) "jdk/internal/util/Preconditions" "SIOOBE_FORMATTER" "Ljava/util/function/BiFunction;") a0 Z = true := hw _ (List.mem_of_getElem? (i := 125) rfl)
theorem w126 (hw : HW a0 Z) : Jvm.Cond.before (Jvm.Cond.initialized "jdk/internal/util/Preconditions") a0 Z = true := hw _ (List.mem_of_getElem? (i := 126) rfl)
theorem w127 (hw : HW a0 Z) : Jvm.Cond.before (Jvm.Cond.methodLink "java/lang/String" (1059 : Nat) ({ cls := "jdk/internal/util/Preconditions", name := "checkIndex", desc := "(IILjava/util/function/BiFunction;)I" } : Jvm.MethodName)) a0 Z = true := hw _ (List.mem_of_getElem? (i := 127) rfl)
theorem w128 (hw : HW a0 Z) : Jvm.Cond.before (Jvm.Cond.static ({ cls := "jdk/internal/util/Preconditions", name := "checkIndex", desc := "(IILjava/util/function/BiFunction;)I" } : Jvm.MethodName)) a0 Z = true := hw _ (List.mem_of_getElem? (i := 128) rfl)
theorem w129 (hw : HW a0 Z) : Jvm.Cond.before (Jvm.Cond.code ({ cls := "jdk/internal/util/Preconditions", name := "checkIndex", desc := "(IILjava/util/function/BiFunction;)I" } : Jvm.MethodName) jdk_41_method_11_code (3 : Nat) (Option.some Jvm.ClassFile.FieldType.int)) a0 Z = true := hw _ (List.mem_of_getElem? (i := 129) rfl)
theorem w130 (hw : HW a0 Z) : Jvm.Cond.before (Jvm.Cond.constantLong "com/example/libinvariant/libinvariant/aiger/LineFields" (41 : Nat) (10 : Int64)) a0 Z = true := hw _ (List.mem_of_getElem? (i := 130) rfl)
theorem w131 (hw : HW a0 Z) : Jvm.Cond.before (Jvm.Cond.constantLong "com/example/libinvariant/libinvariant/aiger/LineFields" (45 : Nat) (2147483647 : Int64)) a0 Z = true := hw _ (List.mem_of_getElem? (i := 131) rfl)
theorem w132 (hw : HW a0 Z) : Jvm.Cond.before (Jvm.Cond.methodLink "com/example/libinvariant/libinvariant/aiger/LineFieldsHasNextPinLaw" (44 : Nat) ({ cls := "com/example/libinvariant/libinvariant/aiger/LineFieldsHasNextPinLaw", name := "firstSpace", desc := "([CII)I" } : Jvm.MethodName)) a0 Z = true := hw _ (List.mem_of_getElem? (i := 132) rfl)
theorem w133 (hw : HW a0 Z) : Jvm.Cond.before (Jvm.Cond.static ({ cls := "com/example/libinvariant/libinvariant/aiger/LineFieldsHasNextPinLaw", name := "firstSpace", desc := "([CII)I" } : Jvm.MethodName)) a0 Z = true := hw _ (List.mem_of_getElem? (i := 133) rfl)
theorem w134 (hw : HW a0 Z) : Jvm.Cond.before (Jvm.Cond.code ({ cls := "com/example/libinvariant/libinvariant/aiger/LineFieldsHasNextPinLaw", name := "firstSpace", desc := "([CII)I" } : Jvm.MethodName) method_4_code (3 : Nat) (Option.some Jvm.ClassFile.FieldType.int)) a0 Z = true := hw _ (List.mem_of_getElem? (i := 134) rfl)
theorem w135 (hw : HW a0 Z) : Jvm.Cond.before (Jvm.Cond.stringLink "com/example/libinvariant/libinvariant/aiger/LineFieldsHasNextPinLaw" (48 : Nat) "g") a0 Z = true := hw _ (List.mem_of_getElem? (i := 135) rfl)
end Wds
theorem strAtoms {a0 : Array Value} {Z : State} (hw : HW a0 Z) : ∀ a ∈ Bundle.stringAtoms, a.before a0 Z = true := by
  intro d hd
  simp only [Bundle.stringAtoms, List.mem_cons, List.not_mem_nil, or_false] at hd
  rcases hd with rfl | rfl | rfl | rfl | rfl | rfl | rfl
  · exact hw _ (List.mem_of_getElem? (i := 10) rfl)
  · exact hw _ (List.mem_of_getElem? (i := 11) rfl)
  · exact hw _ (List.mem_of_getElem? (i := 12) rfl)
  · exact hw _ (List.mem_of_getElem? (i := 13) rfl)
  · exact hw _ (List.mem_of_getElem? (i := 14) rfl)
  · exact hw _ (List.mem_of_getElem? (i := 15) rfl)
  · exact hw _ (List.mem_of_getElem? (i := 16) rfl)
theorem hEW {a0 : Array Value} {Z : State} (hw : HW a0 Z) : ∃ a0, EW Z a0 consts_1 := ⟨a0, EW.cons (hw _ (List.mem_of_getElem? (i := 9) rfl)) (by decide) (EW.cons (hw _ (List.mem_of_getElem? (i := 81) rfl)) (by decide) (EW.cons (hw _ (List.mem_of_getElem? (i := 135) rfl)) (by decide) (EW.nil)))⟩
theorem d1_0 : decode method_2_code 0 = .ok (.iload_n 0, 1) := by decide +kernel
theorem d1_1 : decode method_2_code 1 = .ok (.iload_n 1, 1) := by decide +kernel
theorem d1_2 : decode method_2_code 2 = .ok (.iushr, 1) := by decide +kernel
theorem d1_3 : decode method_2_code 3 = .ok (.iconst 1, 1) := by decide +kernel
theorem d1_4 : decode method_2_code 4 = .ok (.iand, 1) := by decide +kernel
theorem d1_5 : decode method_2_code 5 = .ok (.ifCond .eq 6, 3) := by decide +kernel
theorem d1_8 : decode method_2_code 8 = .ok (.bipush 32, 2) := by decide +kernel
theorem d1_10 : decode method_2_code 10 = .ok (.ireturn, 1) := by decide +kernel
theorem d1_11 : decode method_2_code 11 = .ok (.bipush 48, 2) := by decide +kernel
theorem d1_13 : decode method_2_code 13 = .ok (.iload_n 0, 1) := by decide +kernel
theorem d1_14 : decode method_2_code 14 = .ok (.iconst 5, 1) := by decide +kernel
theorem d1_15 : decode method_2_code 15 = .ok (.iconst 4, 1) := by decide +kernel
theorem d1_16 : decode method_2_code 16 = .ok (.iload_n 1, 1) := by decide +kernel
theorem d1_17 : decode method_2_code 17 = .ok (.imul, 1) := by decide +kernel
theorem d1_18 : decode method_2_code 18 = .ok (.iadd, 1) := by decide +kernel
theorem d1_19 : decode method_2_code 19 = .ok (.iushr, 1) := by decide +kernel
theorem d1_20 : decode method_2_code 20 = .ok (.bipush 15, 2) := by decide +kernel
theorem d1_22 : decode method_2_code 22 = .ok (.iand, 1) := by decide +kernel
theorem d1_23 : decode method_2_code 23 = .ok (.bipush 10, 2) := by decide +kernel
theorem d1_25 : decode method_2_code 25 = .ok (.irem, 1) := by decide +kernel
theorem d1_26 : decode method_2_code 26 = .ok (.iadd, 1) := by decide +kernel
theorem d1_27 : decode method_2_code 27 = .ok (.i2c, 1) := by decide +kernel
theorem d1_28 : decode method_2_code 28 = .ok (.ireturn, 1) := by decide +kernel
theorem d2_0 : decode method_3_code 0 = .ok (.iload_n 1, 1) := by decide +kernel
theorem d2_1 : decode method_3_code 1 = .ok (.ifCond .ne 6, 3) := by decide +kernel
theorem d2_4 : decode method_3_code 4 = .ok (.ldc 7, 2) := by decide +kernel
theorem d2_6 : decode method_3_code 6 = .ok (.areturn, 1) := by decide +kernel
theorem d2_7 : decode method_3_code 7 = .ok (.iload_n 1, 1) := by decide +kernel
theorem d2_8 : decode method_3_code 8 = .ok (.iconst 1, 1) := by decide +kernel
theorem d2_9 : decode method_3_code 9 = .ok (.if_icmp .ne 10, 3) := by decide +kernel
theorem d2_12 : decode method_3_code 12 = .ok (.aload_n 0, 1) := by decide +kernel
theorem d2_13 : decode method_3_code 13 = .ok (.iconst 0, 1) := by decide +kernel
theorem d2_14 : decode method_3_code 14 = .ok (.caload, 1) := by decide +kernel
theorem d2_15 : decode method_3_code 15 = .ok (.invokestatic 9, 3) := by decide +kernel
theorem d2_18 : decode method_3_code 18 = .ok (.areturn, 1) := by decide +kernel
theorem d2_19 : decode method_3_code 19 = .ok (.iload_n 1, 1) := by decide +kernel
theorem d2_20 : decode method_3_code 20 = .ok (.iconst 2, 1) := by decide +kernel
theorem d2_21 : decode method_3_code 21 = .ok (.if_icmp .ne 26, 3) := by decide +kernel
theorem d2_24 : decode method_3_code 24 = .ok (.new 10, 3) := by decide +kernel
theorem d2_27 : decode method_3_code 27 = .ok (.dup, 1) := by decide +kernel
theorem d2_28 : decode method_3_code 28 = .ok (.iconst 2, 1) := by decide +kernel
theorem d2_29 : decode method_3_code 29 = .ok (.newarray .char, 2) := by decide +kernel
theorem d2_31 : decode method_3_code 31 = .ok (.dup, 1) := by decide +kernel
theorem d2_32 : decode method_3_code 32 = .ok (.iconst 0, 1) := by decide +kernel
theorem d2_33 : decode method_3_code 33 = .ok (.aload_n 0, 1) := by decide +kernel
theorem d2_34 : decode method_3_code 34 = .ok (.iconst 0, 1) := by decide +kernel
theorem d2_35 : decode method_3_code 35 = .ok (.caload, 1) := by decide +kernel
theorem d2_36 : decode method_3_code 36 = .ok (.castore, 1) := by decide +kernel
theorem d2_37 : decode method_3_code 37 = .ok (.dup, 1) := by decide +kernel
theorem d2_38 : decode method_3_code 38 = .ok (.iconst 1, 1) := by decide +kernel
theorem d2_39 : decode method_3_code 39 = .ok (.aload_n 0, 1) := by decide +kernel
theorem d2_40 : decode method_3_code 40 = .ok (.iconst 1, 1) := by decide +kernel
theorem d2_41 : decode method_3_code 41 = .ok (.caload, 1) := by decide +kernel
theorem d2_42 : decode method_3_code 42 = .ok (.castore, 1) := by decide +kernel
theorem d2_43 : decode method_3_code 43 = .ok (.invokespecial 15, 3) := by decide +kernel
theorem d2_46 : decode method_3_code 46 = .ok (.areturn, 1) := by decide +kernel
theorem d2_47 : decode method_3_code 47 = .ok (.iload_n 1, 1) := by decide +kernel
theorem d2_48 : decode method_3_code 48 = .ok (.iconst 3, 1) := by decide +kernel
theorem d2_49 : decode method_3_code 49 = .ok (.if_icmp .ne 32, 3) := by decide +kernel
theorem d2_52 : decode method_3_code 52 = .ok (.new 10, 3) := by decide +kernel
theorem d2_55 : decode method_3_code 55 = .ok (.dup, 1) := by decide +kernel
theorem d2_56 : decode method_3_code 56 = .ok (.iconst 3, 1) := by decide +kernel
theorem d2_57 : decode method_3_code 57 = .ok (.newarray .char, 2) := by decide +kernel
theorem d2_59 : decode method_3_code 59 = .ok (.dup, 1) := by decide +kernel
theorem d2_60 : decode method_3_code 60 = .ok (.iconst 0, 1) := by decide +kernel
theorem d2_61 : decode method_3_code 61 = .ok (.aload_n 0, 1) := by decide +kernel
theorem d2_62 : decode method_3_code 62 = .ok (.iconst 0, 1) := by decide +kernel
theorem d2_63 : decode method_3_code 63 = .ok (.caload, 1) := by decide +kernel
theorem d2_64 : decode method_3_code 64 = .ok (.castore, 1) := by decide +kernel
theorem d2_65 : decode method_3_code 65 = .ok (.dup, 1) := by decide +kernel
theorem d2_66 : decode method_3_code 66 = .ok (.iconst 1, 1) := by decide +kernel
theorem d2_67 : decode method_3_code 67 = .ok (.aload_n 0, 1) := by decide +kernel
theorem d2_68 : decode method_3_code 68 = .ok (.iconst 1, 1) := by decide +kernel
theorem d2_69 : decode method_3_code 69 = .ok (.caload, 1) := by decide +kernel
theorem d2_70 : decode method_3_code 70 = .ok (.castore, 1) := by decide +kernel
theorem d2_71 : decode method_3_code 71 = .ok (.dup, 1) := by decide +kernel
theorem d2_72 : decode method_3_code 72 = .ok (.iconst 2, 1) := by decide +kernel
theorem d2_73 : decode method_3_code 73 = .ok (.aload_n 0, 1) := by decide +kernel
theorem d2_74 : decode method_3_code 74 = .ok (.iconst 2, 1) := by decide +kernel
theorem d2_75 : decode method_3_code 75 = .ok (.caload, 1) := by decide +kernel
theorem d2_76 : decode method_3_code 76 = .ok (.castore, 1) := by decide +kernel
theorem d2_77 : decode method_3_code 77 = .ok (.invokespecial 15, 3) := by decide +kernel
theorem d2_80 : decode method_3_code 80 = .ok (.areturn, 1) := by decide +kernel
theorem d2_81 : decode method_3_code 81 = .ok (.iload_n 1, 1) := by decide +kernel
theorem d2_82 : decode method_3_code 82 = .ok (.iconst 4, 1) := by decide +kernel
theorem d2_83 : decode method_3_code 83 = .ok (.if_icmp .ne 38, 3) := by decide +kernel
theorem d2_86 : decode method_3_code 86 = .ok (.new 10, 3) := by decide +kernel
theorem d2_89 : decode method_3_code 89 = .ok (.dup, 1) := by decide +kernel
theorem d2_90 : decode method_3_code 90 = .ok (.iconst 4, 1) := by decide +kernel
theorem d2_91 : decode method_3_code 91 = .ok (.newarray .char, 2) := by decide +kernel
theorem d2_93 : decode method_3_code 93 = .ok (.dup, 1) := by decide +kernel
theorem d2_94 : decode method_3_code 94 = .ok (.iconst 0, 1) := by decide +kernel
theorem d2_95 : decode method_3_code 95 = .ok (.aload_n 0, 1) := by decide +kernel
theorem d2_96 : decode method_3_code 96 = .ok (.iconst 0, 1) := by decide +kernel
theorem d2_97 : decode method_3_code 97 = .ok (.caload, 1) := by decide +kernel
theorem d2_98 : decode method_3_code 98 = .ok (.castore, 1) := by decide +kernel
theorem d2_99 : decode method_3_code 99 = .ok (.dup, 1) := by decide +kernel
theorem d2_100 : decode method_3_code 100 = .ok (.iconst 1, 1) := by decide +kernel
theorem d2_101 : decode method_3_code 101 = .ok (.aload_n 0, 1) := by decide +kernel
theorem d2_102 : decode method_3_code 102 = .ok (.iconst 1, 1) := by decide +kernel
theorem d2_103 : decode method_3_code 103 = .ok (.caload, 1) := by decide +kernel
theorem d2_104 : decode method_3_code 104 = .ok (.castore, 1) := by decide +kernel
theorem d2_105 : decode method_3_code 105 = .ok (.dup, 1) := by decide +kernel
theorem d2_106 : decode method_3_code 106 = .ok (.iconst 2, 1) := by decide +kernel
theorem d2_107 : decode method_3_code 107 = .ok (.aload_n 0, 1) := by decide +kernel
theorem d2_108 : decode method_3_code 108 = .ok (.iconst 2, 1) := by decide +kernel
theorem d2_109 : decode method_3_code 109 = .ok (.caload, 1) := by decide +kernel
theorem d2_110 : decode method_3_code 110 = .ok (.castore, 1) := by decide +kernel
theorem d2_111 : decode method_3_code 111 = .ok (.dup, 1) := by decide +kernel
theorem d2_112 : decode method_3_code 112 = .ok (.iconst 3, 1) := by decide +kernel
theorem d2_113 : decode method_3_code 113 = .ok (.aload_n 0, 1) := by decide +kernel
theorem d2_114 : decode method_3_code 114 = .ok (.iconst 3, 1) := by decide +kernel
theorem d2_115 : decode method_3_code 115 = .ok (.caload, 1) := by decide +kernel
theorem d2_116 : decode method_3_code 116 = .ok (.castore, 1) := by decide +kernel
theorem d2_117 : decode method_3_code 117 = .ok (.invokespecial 15, 3) := by decide +kernel
theorem d2_120 : decode method_3_code 120 = .ok (.areturn, 1) := by decide +kernel
theorem d2_121 : decode method_3_code 121 = .ok (.new 10, 3) := by decide +kernel
theorem d2_124 : decode method_3_code 124 = .ok (.dup, 1) := by decide +kernel
theorem d2_125 : decode method_3_code 125 = .ok (.iconst 5, 1) := by decide +kernel
theorem d2_126 : decode method_3_code 126 = .ok (.newarray .char, 2) := by decide +kernel
theorem d2_128 : decode method_3_code 128 = .ok (.dup, 1) := by decide +kernel
theorem d2_129 : decode method_3_code 129 = .ok (.iconst 0, 1) := by decide +kernel
theorem d2_130 : decode method_3_code 130 = .ok (.aload_n 0, 1) := by decide +kernel
theorem d2_131 : decode method_3_code 131 = .ok (.iconst 0, 1) := by decide +kernel
theorem d2_132 : decode method_3_code 132 = .ok (.caload, 1) := by decide +kernel
theorem d2_133 : decode method_3_code 133 = .ok (.castore, 1) := by decide +kernel
theorem d2_134 : decode method_3_code 134 = .ok (.dup, 1) := by decide +kernel
theorem d2_135 : decode method_3_code 135 = .ok (.iconst 1, 1) := by decide +kernel
theorem d2_136 : decode method_3_code 136 = .ok (.aload_n 0, 1) := by decide +kernel
theorem d2_137 : decode method_3_code 137 = .ok (.iconst 1, 1) := by decide +kernel
theorem d2_138 : decode method_3_code 138 = .ok (.caload, 1) := by decide +kernel
theorem d2_139 : decode method_3_code 139 = .ok (.castore, 1) := by decide +kernel
theorem d2_140 : decode method_3_code 140 = .ok (.dup, 1) := by decide +kernel
theorem d2_141 : decode method_3_code 141 = .ok (.iconst 2, 1) := by decide +kernel
theorem d2_142 : decode method_3_code 142 = .ok (.aload_n 0, 1) := by decide +kernel
theorem d2_143 : decode method_3_code 143 = .ok (.iconst 2, 1) := by decide +kernel
theorem d2_144 : decode method_3_code 144 = .ok (.caload, 1) := by decide +kernel
theorem d2_145 : decode method_3_code 145 = .ok (.castore, 1) := by decide +kernel
theorem d2_146 : decode method_3_code 146 = .ok (.dup, 1) := by decide +kernel
theorem d2_147 : decode method_3_code 147 = .ok (.iconst 3, 1) := by decide +kernel
theorem d2_148 : decode method_3_code 148 = .ok (.aload_n 0, 1) := by decide +kernel
theorem d2_149 : decode method_3_code 149 = .ok (.iconst 3, 1) := by decide +kernel
theorem d2_150 : decode method_3_code 150 = .ok (.caload, 1) := by decide +kernel
theorem d2_151 : decode method_3_code 151 = .ok (.castore, 1) := by decide +kernel
theorem d2_152 : decode method_3_code 152 = .ok (.dup, 1) := by decide +kernel
theorem d2_153 : decode method_3_code 153 = .ok (.iconst 4, 1) := by decide +kernel
theorem d2_154 : decode method_3_code 154 = .ok (.aload_n 0, 1) := by decide +kernel
theorem d2_155 : decode method_3_code 155 = .ok (.iconst 4, 1) := by decide +kernel
theorem d2_156 : decode method_3_code 156 = .ok (.caload, 1) := by decide +kernel
theorem d2_157 : decode method_3_code 157 = .ok (.castore, 1) := by decide +kernel
theorem d2_158 : decode method_3_code 158 = .ok (.invokespecial 15, 3) := by decide +kernel
theorem d2_161 : decode method_3_code 161 = .ok (.areturn, 1) := by decide +kernel
theorem d3_0 : decode prog_13_method_1_code 0 = .ok (.aload_n 0, 1) := by decide +kernel
theorem d3_1 : decode prog_13_method_1_code 1 = .ok (.invokespecial 1, 3) := by decide +kernel
theorem d3_4 : decode prog_13_method_1_code 4 = .ok (.aload_n 0, 1) := by decide +kernel
theorem d3_5 : decode prog_13_method_1_code 5 = .ok (.aload_n 1, 1) := by decide +kernel
theorem d3_6 : decode prog_13_method_1_code 6 = .ok (.putfield 7, 3) := by decide +kernel
theorem d3_9 : decode prog_13_method_1_code 9 = .ok (.aload_n 0, 1) := by decide +kernel
theorem d3_10 : decode prog_13_method_1_code 10 = .ok (.iload_n 2, 1) := by decide +kernel
theorem d3_11 : decode prog_13_method_1_code 11 = .ok (.iconst 1, 1) := by decide +kernel
theorem d3_12 : decode prog_13_method_1_code 12 = .ok (.isub, 1) := by decide +kernel
theorem d3_13 : decode prog_13_method_1_code 13 = .ok (.putfield 13, 3) := by decide +kernel
theorem d3_16 : decode prog_13_method_1_code 16 = .ok (.return_, 1) := by decide +kernel
theorem d5_0 : decode prog_13_method_2_code 0 = .ok (.aload_n 0, 1) := by decide +kernel
theorem d5_1 : decode prog_13_method_2_code 1 = .ok (.getfield 13, 3) := by decide +kernel
theorem d5_4 : decode prog_13_method_2_code 4 = .ok (.aload_n 0, 1) := by decide +kernel
theorem d5_5 : decode prog_13_method_2_code 5 = .ok (.getfield 7, 3) := by decide +kernel
theorem d5_8 : decode prog_13_method_2_code 8 = .ok (.invokevirtual 17, 3) := by decide +kernel
theorem d5_11 : decode prog_13_method_2_code 11 = .ok (.if_icmp .ge 7, 3) := by decide +kernel
theorem d5_14 : decode prog_13_method_2_code 14 = .ok (.iconst 1, 1) := by decide +kernel
theorem d5_15 : decode prog_13_method_2_code 15 = .ok (.goto 4, 3) := by decide +kernel
theorem d5_18 : decode prog_13_method_2_code 18 = .ok (.iconst 0, 1) := by decide +kernel
theorem d5_19 : decode prog_13_method_2_code 19 = .ok (.ireturn, 1) := by decide +kernel
theorem d6_0 : decode jdk_42_method_54_code 0 = .ok (.aload_n 0, 1) := by decide +kernel
theorem d6_1 : decode jdk_42_method_54_code 1 = .ok (.getfield 9, 3) := by decide +kernel
theorem d6_4 : decode jdk_42_method_54_code 4 = .ok (.arraylength, 1) := by decide +kernel
theorem d6_5 : decode jdk_42_method_54_code 5 = .ok (.aload_n 0, 1) := by decide +kernel
theorem d6_6 : decode jdk_42_method_54_code 6 = .ok (.invokevirtual 335, 3) := by decide +kernel
theorem d6_9 : decode jdk_42_method_54_code 9 = .ok (.ishr, 1) := by decide +kernel
theorem d6_10 : decode jdk_42_method_54_code 10 = .ok (.ireturn, 1) := by decide +kernel
theorem d7_0 : decode jdk_42_method_152_code 0 = .ok (.getstatic 38, 3) := by decide +kernel
theorem d7_3 : decode jdk_42_method_152_code 3 = .ok (.ifCond .eq 10, 3) := by decide +kernel
theorem d7_6 : decode jdk_42_method_152_code 6 = .ok (.aload_n 0, 1) := by decide +kernel
theorem d7_7 : decode jdk_42_method_152_code 7 = .ok (.getfield 15, 3) := by decide +kernel
theorem d7_10 : decode jdk_42_method_152_code 10 = .ok (.goto 4, 3) := by decide +kernel
theorem d7_14 : decode jdk_42_method_152_code 14 = .ok (.ireturn, 1) := by decide +kernel
theorem d8_0 : decode jdk_42_method_139_code 0 = .ok (.getstatic 38, 3) := by decide +kernel
theorem d8_3 : decode jdk_42_method_139_code 3 = .ok (.ifCond .eq 23, 3) := by decide +kernel
theorem d8_6 : decode jdk_42_method_139_code 6 = .ok (.iload_n 0, 1) := by decide +kernel
theorem d8_7 : decode jdk_42_method_139_code 7 = .ok (.invokestatic 1015, 3) := by decide +kernel
theorem d8_10 : decode jdk_42_method_139_code 10 = .ok (.ifCond .eq 16, 3) := by decide +kernel
theorem d8_13 : decode jdk_42_method_139_code 13 = .ok (.new 10, 3) := by decide +kernel
theorem d8_16 : decode jdk_42_method_139_code 16 = .ok (.dup, 1) := by decide +kernel
theorem d8_17 : decode jdk_42_method_139_code 17 = .ok (.iload_n 0, 1) := by decide +kernel
theorem d8_18 : decode jdk_42_method_139_code 18 = .ok (.invokestatic 1018, 3) := by decide +kernel
theorem d8_21 : decode jdk_42_method_139_code 21 = .ok (.iconst 0, 1) := by decide +kernel
theorem d8_22 : decode jdk_42_method_139_code 22 = .ok (.invokespecial 209, 3) := by decide +kernel
theorem d8_25 : decode jdk_42_method_139_code 25 = .ok (.areturn, 1) := by decide +kernel
theorem d9_0 : decode jdk_43_method_3_code 0 = .ok (.iload_n 0, 1) := by decide +kernel
theorem d9_1 : decode jdk_43_method_3_code 1 = .ok (.sipush 255, 3) := by decide +kernel
theorem d9_4 : decode jdk_43_method_3_code 4 = .ok (.if_icmp .gt 7, 3) := by decide +kernel
theorem d9_7 : decode jdk_43_method_3_code 7 = .ok (.iconst 1, 1) := by decide +kernel
theorem d9_8 : decode jdk_43_method_3_code 8 = .ok (.goto 4, 3) := by decide +kernel
theorem d9_12 : decode jdk_43_method_3_code 12 = .ok (.ireturn, 1) := by decide +kernel
theorem d10_0 : decode jdk_43_method_46_code 0 = .ok (.iconst 1, 1) := by decide +kernel
theorem d10_1 : decode jdk_43_method_46_code 1 = .ok (.newarray .byte, 2) := by decide +kernel
theorem d10_3 : decode jdk_43_method_46_code 3 = .ok (.dup, 1) := by decide +kernel
theorem d10_4 : decode jdk_43_method_46_code 4 = .ok (.iconst 0, 1) := by decide +kernel
theorem d10_5 : decode jdk_43_method_46_code 5 = .ok (.iload_n 0, 1) := by decide +kernel
theorem d10_6 : decode jdk_43_method_46_code 6 = .ok (.i2b, 1) := by decide +kernel
theorem d10_7 : decode jdk_43_method_46_code 7 = .ok (.bastore, 1) := by decide +kernel
theorem d10_8 : decode jdk_43_method_46_code 8 = .ok (.areturn, 1) := by decide +kernel
theorem d11_0 : decode jdk_42_method_151_code 0 = .ok (.aload_n 0, 1) := by decide +kernel
theorem d11_1 : decode jdk_42_method_151_code 1 = .ok (.invokespecial 1, 3) := by decide +kernel
theorem d11_4 : decode jdk_42_method_151_code 4 = .ok (.aload_n 0, 1) := by decide +kernel
theorem d11_5 : decode jdk_42_method_151_code 5 = .ok (.aload_n 1, 1) := by decide +kernel
theorem d11_6 : decode jdk_42_method_151_code 6 = .ok (.putfield 9, 3) := by decide +kernel
theorem d11_9 : decode jdk_42_method_151_code 9 = .ok (.aload_n 0, 1) := by decide +kernel
theorem d11_10 : decode jdk_42_method_151_code 10 = .ok (.iload_n 2, 1) := by decide +kernel
theorem d11_11 : decode jdk_42_method_151_code 11 = .ok (.putfield 15, 3) := by decide +kernel
theorem d11_14 : decode jdk_42_method_151_code 14 = .ok (.return_, 1) := by decide +kernel
theorem d12_0 : decode jdk_42_method_3_code 0 = .ok (.aload_n 0, 1) := by decide +kernel
theorem d12_1 : decode jdk_42_method_3_code 1 = .ok (.aload_n 1, 1) := by decide +kernel
theorem d12_2 : decode jdk_42_method_3_code 2 = .ok (.iconst 0, 1) := by decide +kernel
theorem d12_3 : decode jdk_42_method_3_code 3 = .ok (.aload_n 1, 1) := by decide +kernel
theorem d12_4 : decode jdk_42_method_3_code 4 = .ok (.arraylength, 1) := by decide +kernel
theorem d12_5 : decode jdk_42_method_3_code 5 = .ok (.aconst_null, 1) := by decide +kernel
theorem d12_6 : decode jdk_42_method_3_code 6 = .ok (.invokespecial 27, 3) := by decide +kernel
theorem d12_9 : decode jdk_42_method_3_code 9 = .ok (.return_, 1) := by decide +kernel
theorem d13_0 : decode jdk_42_method_149_code 0 = .ok (.aload_n 0, 1) := by decide +kernel
theorem d13_1 : decode jdk_42_method_149_code 1 = .ok (.invokespecial 1, 3) := by decide +kernel
theorem d13_4 : decode jdk_42_method_149_code 4 = .ok (.iload_n 3, 1) := by decide +kernel
theorem d13_5 : decode jdk_42_method_149_code 5 = .ok (.ifCond .ne 22, 3) := by decide +kernel
theorem d13_27 : decode jdk_42_method_149_code 27 = .ok (.getstatic 38, 3) := by decide +kernel
theorem d13_30 : decode jdk_42_method_149_code 30 = .ok (.ifCond .eq 28, 3) := by decide +kernel
theorem d13_33 : decode jdk_42_method_149_code 33 = .ok (.aload_n 1, 1) := by decide +kernel
theorem d13_34 : decode jdk_42_method_149_code 34 = .ok (.iload_n 2, 1) := by decide +kernel
theorem d13_35 : decode jdk_42_method_149_code 35 = .ok (.iload_n 3, 1) := by decide +kernel
theorem d13_36 : decode jdk_42_method_149_code 36 = .ok (.invokestatic 177, 3) := by decide +kernel
theorem d13_39 : decode jdk_42_method_149_code 39 = .ok (.astore 5, 2) := by decide +kernel
theorem d13_41 : decode jdk_42_method_149_code 41 = .ok (.aload_n 0, 1) := by decide +kernel
theorem d13_42 : decode jdk_42_method_149_code 42 = .ok (.aload 5, 2) := by decide +kernel
theorem d13_44 : decode jdk_42_method_149_code 44 = .ok (.iload_n 3, 1) := by decide +kernel
theorem d13_45 : decode jdk_42_method_149_code 45 = .ok (.invokestatic 47, 3) := by decide +kernel
theorem d13_48 : decode jdk_42_method_149_code 48 = .ok (.putfield 15, 3) := by decide +kernel
theorem d13_51 : decode jdk_42_method_149_code 51 = .ok (.aload_n 0, 1) := by decide +kernel
theorem d13_52 : decode jdk_42_method_149_code 52 = .ok (.aload 5, 2) := by decide +kernel
theorem d13_54 : decode jdk_42_method_149_code 54 = .ok (.putfield 9, 3) := by decide +kernel
theorem d13_57 : decode jdk_42_method_149_code 57 = .ok (.return_, 1) := by decide +kernel
theorem d14_0 : decode jdk_52_method_16_code 0 = .ok (.iload_n 2, 1) := by decide +kernel
theorem d14_1 : decode jdk_52_method_16_code 1 = .ok (.newarray .byte, 2) := by decide +kernel
theorem d14_3 : decode jdk_52_method_16_code 3 = .ok (.astore_n 3, 1) := by decide +kernel
theorem d14_4 : decode jdk_52_method_16_code 4 = .ok (.aload_n 0, 1) := by decide +kernel
theorem d14_5 : decode jdk_52_method_16_code 5 = .ok (.iload_n 1, 1) := by decide +kernel
theorem d14_6 : decode jdk_52_method_16_code 6 = .ok (.aload_n 3, 1) := by decide +kernel
theorem d14_7 : decode jdk_52_method_16_code 7 = .ok (.iconst 0, 1) := by decide +kernel
theorem d14_8 : decode jdk_52_method_16_code 8 = .ok (.iload_n 2, 1) := by decide +kernel
theorem d14_9 : decode jdk_52_method_16_code 9 = .ok (.invokestatic 115, 3) := by decide +kernel
theorem d14_12 : decode jdk_52_method_16_code 12 = .ok (.istore 4, 2) := by decide +kernel
theorem d14_14 : decode jdk_52_method_16_code 14 = .ok (.iload 4, 2) := by decide +kernel
theorem d14_16 : decode jdk_52_method_16_code 16 = .ok (.iload_n 2, 1) := by decide +kernel
theorem d14_17 : decode jdk_52_method_16_code 17 = .ok (.if_icmp .eq 40, 3) := by decide +kernel
theorem d14_57 : decode jdk_52_method_16_code 57 = .ok (.aload_n 3, 1) := by decide +kernel
theorem d14_58 : decode jdk_52_method_16_code 58 = .ok (.areturn, 1) := by decide +kernel
theorem d15_0 : decode jdk_52_method_21_code 0 = .ok (.iconst 0, 1) := by decide +kernel
theorem d15_1 : decode jdk_52_method_21_code 1 = .ok (.istore 5, 2) := by decide +kernel
theorem d15_3 : decode jdk_52_method_21_code 3 = .ok (.iload 5, 2) := by decide +kernel
theorem d15_5 : decode jdk_52_method_21_code 5 = .ok (.iload 4, 2) := by decide +kernel
theorem d15_7 : decode jdk_52_method_21_code 7 = .ok (.if_icmp .ge 37, 3) := by decide +kernel
theorem d15_10 : decode jdk_52_method_21_code 10 = .ok (.aload_n 0, 1) := by decide +kernel
theorem d15_11 : decode jdk_52_method_21_code 11 = .ok (.iload_n 1, 1) := by decide +kernel
theorem d15_12 : decode jdk_52_method_21_code 12 = .ok (.caload, 1) := by decide +kernel
theorem d15_13 : decode jdk_52_method_21_code 13 = .ok (.istore 6, 2) := by decide +kernel
theorem d15_15 : decode jdk_52_method_21_code 15 = .ok (.iload 6, 2) := by decide +kernel
theorem d15_17 : decode jdk_52_method_21_code 17 = .ok (.sipush 255, 3) := by decide +kernel
theorem d15_20 : decode jdk_52_method_21_code 20 = .ok (.if_icmp .le 6, 3) := by decide +kernel
theorem d15_26 : decode jdk_52_method_21_code 26 = .ok (.aload_n 2, 1) := by decide +kernel
theorem d15_27 : decode jdk_52_method_21_code 27 = .ok (.iload_n 3, 1) := by decide +kernel
theorem d15_28 : decode jdk_52_method_21_code 28 = .ok (.iload 6, 2) := by decide +kernel
theorem d15_30 : decode jdk_52_method_21_code 30 = .ok (.i2b, 1) := by decide +kernel
theorem d15_31 : decode jdk_52_method_21_code 31 = .ok (.bastore, 1) := by decide +kernel
theorem d15_32 : decode jdk_52_method_21_code 32 = .ok (.iinc 1 1, 3) := by decide +kernel
theorem d15_35 : decode jdk_52_method_21_code 35 = .ok (.iinc 3 1, 3) := by decide +kernel
theorem d15_38 : decode jdk_52_method_21_code 38 = .ok (.iinc 5 1, 3) := by decide +kernel
theorem d15_41 : decode jdk_52_method_21_code 41 = .ok (.goto (-38), 3) := by decide +kernel
theorem d15_44 : decode jdk_52_method_21_code 44 = .ok (.iload 4, 2) := by decide +kernel
theorem d15_46 : decode jdk_52_method_21_code 46 = .ok (.ireturn, 1) := by decide +kernel
theorem d16_0 : decode jdk_52_method_15_code 0 = .ok (.iload_n 1, 1) := by decide +kernel
theorem d16_1 : decode jdk_52_method_15_code 1 = .ok (.aload_n 0, 1) := by decide +kernel
theorem d16_2 : decode jdk_52_method_15_code 2 = .ok (.arraylength, 1) := by decide +kernel
theorem d16_3 : decode jdk_52_method_15_code 3 = .ok (.isub, 1) := by decide +kernel
theorem d16_4 : decode jdk_52_method_15_code 4 = .ok (.bipush 31, 2) := by decide +kernel
theorem d16_6 : decode jdk_52_method_15_code 6 = .ok (.iushr, 1) := by decide +kernel
theorem d16_7 : decode jdk_52_method_15_code 7 = .ok (.i2b, 1) := by decide +kernel
theorem d16_8 : decode jdk_52_method_15_code 8 = .ok (.ireturn, 1) := by decide +kernel
theorem d17_0 : decode prog_13_method_3_code 0 = .ok (.aload_n 0, 1) := by decide +kernel
theorem d17_1 : decode prog_13_method_3_code 1 = .ok (.getfield 13, 3) := by decide +kernel
theorem d17_4 : decode prog_13_method_3_code 4 = .ok (.iconst 1, 1) := by decide +kernel
theorem d17_5 : decode prog_13_method_3_code 5 = .ok (.iadd, 1) := by decide +kernel
theorem d17_6 : decode prog_13_method_3_code 6 = .ok (.istore_n 2, 1) := by decide +kernel
theorem d17_7 : decode prog_13_method_3_code 7 = .ok (.aload_n 0, 1) := by decide +kernel
theorem d17_8 : decode prog_13_method_3_code 8 = .ok (.getfield 7, 3) := by decide +kernel
theorem d17_11 : decode prog_13_method_3_code 11 = .ok (.bipush 32, 2) := by decide +kernel
theorem d17_13 : decode prog_13_method_3_code 13 = .ok (.iload_n 2, 1) := by decide +kernel
theorem d17_14 : decode prog_13_method_3_code 14 = .ok (.invokevirtual 23, 3) := by decide +kernel
theorem d17_17 : decode prog_13_method_3_code 17 = .ok (.istore_n 3, 1) := by decide +kernel
theorem d17_18 : decode prog_13_method_3_code 18 = .ok (.iload_n 3, 1) := by decide +kernel
theorem d17_19 : decode prog_13_method_3_code 19 = .ok (.ifCond .ge 11, 3) := by decide +kernel
theorem d17_22 : decode prog_13_method_3_code 22 = .ok (.aload_n 0, 1) := by decide +kernel
theorem d17_23 : decode prog_13_method_3_code 23 = .ok (.getfield 7, 3) := by decide +kernel
theorem d17_26 : decode prog_13_method_3_code 26 = .ok (.invokevirtual 17, 3) := by decide +kernel
theorem d17_29 : decode prog_13_method_3_code 29 = .ok (.istore_n 3, 1) := by decide +kernel
theorem d17_30 : decode prog_13_method_3_code 30 = .ok (.aload_n 0, 1) := by decide +kernel
theorem d17_31 : decode prog_13_method_3_code 31 = .ok (.iload_n 3, 1) := by decide +kernel
theorem d17_32 : decode prog_13_method_3_code 32 = .ok (.putfield 13, 3) := by decide +kernel
theorem d17_35 : decode prog_13_method_3_code 35 = .ok (.iload_n 2, 1) := by decide +kernel
theorem d17_36 : decode prog_13_method_3_code 36 = .ok (.iload_n 3, 1) := by decide +kernel
theorem d17_37 : decode prog_13_method_3_code 37 = .ok (.if_icmp .ne 17, 3) := by decide +kernel
theorem d17_54 : decode prog_13_method_3_code 54 = .ok (.lconst 0, 1) := by decide +kernel
theorem d17_55 : decode prog_13_method_3_code 55 = .ok (.lstore 4, 2) := by decide +kernel
theorem d17_57 : decode prog_13_method_3_code 57 = .ok (.iload_n 2, 1) := by decide +kernel
theorem d17_58 : decode prog_13_method_3_code 58 = .ok (.istore 6, 2) := by decide +kernel
theorem d17_60 : decode prog_13_method_3_code 60 = .ok (.iload 6, 2) := by decide +kernel
theorem d17_62 : decode prog_13_method_3_code 62 = .ok (.iload_n 3, 1) := by decide +kernel
theorem d17_63 : decode prog_13_method_3_code 63 = .ok (.if_icmp .ge 86, 3) := by decide +kernel
theorem d17_66 : decode prog_13_method_3_code 66 = .ok (.aload_n 0, 1) := by decide +kernel
theorem d17_67 : decode prog_13_method_3_code 67 = .ok (.getfield 7, 3) := by decide +kernel
theorem d17_70 : decode prog_13_method_3_code 70 = .ok (.iload 6, 2) := by decide +kernel
theorem d17_72 : decode prog_13_method_3_code 72 = .ok (.invokevirtual 36, 3) := by decide +kernel
theorem d17_75 : decode prog_13_method_3_code 75 = .ok (.istore 7, 2) := by decide +kernel
theorem d17_77 : decode prog_13_method_3_code 77 = .ok (.iload 7, 2) := by decide +kernel
theorem d17_79 : decode prog_13_method_3_code 79 = .ok (.bipush 48, 2) := by decide +kernel
theorem d17_81 : decode prog_13_method_3_code 81 = .ok (.if_icmp .lt 10, 3) := by decide +kernel
theorem d17_84 : decode prog_13_method_3_code 84 = .ok (.iload 7, 2) := by decide +kernel
theorem d17_86 : decode prog_13_method_3_code 86 = .ok (.bipush 57, 2) := by decide +kernel
theorem d17_88 : decode prog_13_method_3_code 88 = .ok (.if_icmp .le 17, 3) := by decide +kernel
theorem d17_105 : decode prog_13_method_3_code 105 = .ok (.lload 4, 2) := by decide +kernel
theorem d17_107 : decode prog_13_method_3_code 107 = .ok (.ldc2_w 41, 3) := by decide +kernel
theorem d17_110 : decode prog_13_method_3_code 110 = .ok (.lmul, 1) := by decide +kernel
theorem d17_111 : decode prog_13_method_3_code 111 = .ok (.iload 7, 2) := by decide +kernel
theorem d17_113 : decode prog_13_method_3_code 113 = .ok (.bipush 48, 2) := by decide +kernel
theorem d17_115 : decode prog_13_method_3_code 115 = .ok (.isub, 1) := by decide +kernel
theorem d17_116 : decode prog_13_method_3_code 116 = .ok (.i2l, 1) := by decide +kernel
theorem d17_117 : decode prog_13_method_3_code 117 = .ok (.ladd, 1) := by decide +kernel
theorem d17_118 : decode prog_13_method_3_code 118 = .ok (.lstore 4, 2) := by decide +kernel
theorem d17_120 : decode prog_13_method_3_code 120 = .ok (.lload 4, 2) := by decide +kernel
theorem d17_122 : decode prog_13_method_3_code 122 = .ok (.ldc2_w 45, 3) := by decide +kernel
theorem d17_125 : decode prog_13_method_3_code 125 = .ok (.lcmp, 1) := by decide +kernel
theorem d17_126 : decode prog_13_method_3_code 126 = .ok (.ifCond .le 17, 3) := by decide +kernel
theorem d17_143 : decode prog_13_method_3_code 143 = .ok (.iinc 6 1, 3) := by decide +kernel
theorem d17_146 : decode prog_13_method_3_code 146 = .ok (.goto (-86), 3) := by decide +kernel
theorem d17_149 : decode prog_13_method_3_code 149 = .ok (.lload 4, 2) := by decide +kernel
theorem d17_151 : decode prog_13_method_3_code 151 = .ok (.l2i, 1) := by decide +kernel
theorem d17_152 : decode prog_13_method_3_code 152 = .ok (.ireturn, 1) := by decide +kernel
theorem d18_0 : decode jdk_42_method_80_code 0 = .ok (.aload_n 0, 1) := by decide +kernel
theorem d18_1 : decode jdk_42_method_80_code 1 = .ok (.invokevirtual 492, 3) := by decide +kernel
theorem d18_4 : decode jdk_42_method_80_code 4 = .ok (.ifCond .eq 19, 3) := by decide +kernel
theorem d18_7 : decode jdk_42_method_80_code 7 = .ok (.aload_n 0, 1) := by decide +kernel
theorem d18_8 : decode jdk_42_method_80_code 8 = .ok (.getfield 9, 3) := by decide +kernel
theorem d18_11 : decode jdk_42_method_80_code 11 = .ok (.iload_n 1, 1) := by decide +kernel
theorem d18_12 : decode jdk_42_method_80_code 12 = .ok (.iload_n 2, 1) := by decide +kernel
theorem d18_13 : decode jdk_42_method_80_code 13 = .ok (.aload_n 0, 1) := by decide +kernel
theorem d18_14 : decode jdk_42_method_80_code 14 = .ok (.invokevirtual 505, 3) := by decide +kernel
theorem d18_17 : decode jdk_42_method_80_code 17 = .ok (.invokestatic 637, 3) := by decide +kernel
theorem d18_20 : decode jdk_42_method_80_code 20 = .ok (.goto 16, 3) := by decide +kernel
theorem d18_36 : decode jdk_42_method_80_code 36 = .ok (.ireturn, 1) := by decide +kernel
theorem d19_0 : decode jdk_42_method_154_code 0 = .ok (.getstatic 38, 3) := by decide +kernel
theorem d19_3 : decode jdk_42_method_154_code 3 = .ok (.ifCond .eq 14, 3) := by decide +kernel
theorem d19_6 : decode jdk_42_method_154_code 6 = .ok (.aload_n 0, 1) := by decide +kernel
theorem d19_7 : decode jdk_42_method_154_code 7 = .ok (.getfield 15, 3) := by decide +kernel
theorem d19_10 : decode jdk_42_method_154_code 10 = .ok (.ifCond .ne 7, 3) := by decide +kernel
theorem d19_13 : decode jdk_42_method_154_code 13 = .ok (.iconst 1, 1) := by decide +kernel
theorem d19_14 : decode jdk_42_method_154_code 14 = .ok (.goto 4, 3) := by decide +kernel
theorem d19_18 : decode jdk_42_method_154_code 18 = .ok (.ireturn, 1) := by decide +kernel
theorem d20_0 : decode jdk_43_method_22_code 0 = .ok (.iload_n 1, 1) := by decide +kernel
theorem d20_1 : decode jdk_43_method_22_code 1 = .ok (.invokestatic 88, 3) := by decide +kernel
theorem d20_4 : decode jdk_43_method_22_code 4 = .ok (.ifCond .ne 5, 3) := by decide +kernel
theorem d20_9 : decode jdk_43_method_22_code 9 = .ok (.iload_n 2, 1) := by decide +kernel
theorem d20_10 : decode jdk_43_method_22_code 10 = .ok (.iconst 0, 1) := by decide +kernel
theorem d20_11 : decode jdk_43_method_22_code 11 = .ok (.invokestatic 92, 3) := by decide +kernel
theorem d20_14 : decode jdk_43_method_22_code 14 = .ok (.istore_n 2, 1) := by decide +kernel
theorem d20_15 : decode jdk_43_method_22_code 15 = .ok (.iload_n 3, 1) := by decide +kernel
theorem d20_16 : decode jdk_43_method_22_code 16 = .ok (.aload_n 0, 1) := by decide +kernel
theorem d20_17 : decode jdk_43_method_22_code 17 = .ok (.arraylength, 1) := by decide +kernel
theorem d20_18 : decode jdk_43_method_22_code 18 = .ok (.invokestatic 38, 3) := by decide +kernel
theorem d20_21 : decode jdk_43_method_22_code 21 = .ok (.istore_n 3, 1) := by decide +kernel
theorem d20_22 : decode jdk_43_method_22_code 22 = .ok (.iload_n 2, 1) := by decide +kernel
theorem d20_23 : decode jdk_43_method_22_code 23 = .ok (.iload_n 3, 1) := by decide +kernel
theorem d20_24 : decode jdk_43_method_22_code 24 = .ok (.if_icmp .lt 5, 3) := by decide +kernel
theorem d20_29 : decode jdk_43_method_22_code 29 = .ok (.aload_n 0, 1) := by decide +kernel
theorem d20_30 : decode jdk_43_method_22_code 30 = .ok (.iload_n 1, 1) := by decide +kernel
theorem d20_31 : decode jdk_43_method_22_code 31 = .ok (.iload_n 2, 1) := by decide +kernel
theorem d20_32 : decode jdk_43_method_22_code 32 = .ok (.iload_n 3, 1) := by decide +kernel
theorem d20_33 : decode jdk_43_method_22_code 33 = .ok (.invokestatic 95, 3) := by decide +kernel
theorem d20_36 : decode jdk_43_method_22_code 36 = .ok (.ireturn, 1) := by decide +kernel
theorem d21_0 : decode jdk_43_method_4_code 0 = .ok (.iload_n 0, 1) := by decide +kernel
theorem d21_1 : decode jdk_43_method_4_code 1 = .ok (.ifCond .lt 14, 3) := by decide +kernel
theorem d21_4 : decode jdk_43_method_4_code 4 = .ok (.iload_n 0, 1) := by decide +kernel
theorem d21_5 : decode jdk_43_method_4_code 5 = .ok (.sipush 255, 3) := by decide +kernel
theorem d21_8 : decode jdk_43_method_4_code 8 = .ok (.if_icmp .gt 7, 3) := by decide +kernel
theorem d21_11 : decode jdk_43_method_4_code 11 = .ok (.iconst 1, 1) := by decide +kernel
theorem d21_12 : decode jdk_43_method_4_code 12 = .ok (.goto 4, 3) := by decide +kernel
theorem d21_16 : decode jdk_43_method_4_code 16 = .ok (.ireturn, 1) := by decide +kernel
theorem d22_0 : decode jdk_29_method_65_code 0 = .ok (.iload_n 0, 1) := by decide +kernel
theorem d22_1 : decode jdk_29_method_65_code 1 = .ok (.iload_n 1, 1) := by decide +kernel
theorem d22_2 : decode jdk_29_method_65_code 2 = .ok (.if_icmp .lt 7, 3) := by decide +kernel
theorem d22_5 : decode jdk_29_method_65_code 5 = .ok (.iload_n 0, 1) := by decide +kernel
theorem d22_6 : decode jdk_29_method_65_code 6 = .ok (.goto 4, 3) := by decide +kernel
theorem d22_9 : decode jdk_29_method_65_code 9 = .ok (.iload_n 1, 1) := by decide +kernel
theorem d22_10 : decode jdk_29_method_65_code 10 = .ok (.ireturn, 1) := by decide +kernel
theorem d23_0 : decode jdk_29_method_69_code 0 = .ok (.iload_n 0, 1) := by decide +kernel
theorem d23_1 : decode jdk_29_method_69_code 1 = .ok (.iload_n 1, 1) := by decide +kernel
theorem d23_2 : decode jdk_29_method_69_code 2 = .ok (.if_icmp .gt 7, 3) := by decide +kernel
theorem d23_5 : decode jdk_29_method_69_code 5 = .ok (.iload_n 0, 1) := by decide +kernel
theorem d23_6 : decode jdk_29_method_69_code 6 = .ok (.goto 4, 3) := by decide +kernel
theorem d23_9 : decode jdk_29_method_69_code 9 = .ok (.iload_n 1, 1) := by decide +kernel
theorem d23_10 : decode jdk_29_method_69_code 10 = .ok (.ireturn, 1) := by decide +kernel
theorem d24_0 : decode jdk_43_method_23_code 0 = .ok (.iload_n 1, 1) := by decide +kernel
theorem d24_1 : decode jdk_43_method_23_code 1 = .ok (.i2b, 1) := by decide +kernel
theorem d24_2 : decode jdk_43_method_23_code 2 = .ok (.istore 4, 2) := by decide +kernel
theorem d24_4 : decode jdk_43_method_23_code 4 = .ok (.iload_n 2, 1) := by decide +kernel
theorem d24_5 : decode jdk_43_method_23_code 5 = .ok (.istore 5, 2) := by decide +kernel
theorem d24_7 : decode jdk_43_method_23_code 7 = .ok (.iload 5, 2) := by decide +kernel
theorem d24_9 : decode jdk_43_method_23_code 9 = .ok (.iload_n 3, 1) := by decide +kernel
theorem d24_10 : decode jdk_43_method_23_code 10 = .ok (.if_icmp .ge 21, 3) := by decide +kernel
theorem d24_13 : decode jdk_43_method_23_code 13 = .ok (.aload_n 0, 1) := by decide +kernel
theorem d24_14 : decode jdk_43_method_23_code 14 = .ok (.iload 5, 2) := by decide +kernel
theorem d24_16 : decode jdk_43_method_23_code 16 = .ok (.baload, 1) := by decide +kernel
theorem d24_17 : decode jdk_43_method_23_code 17 = .ok (.iload 4, 2) := by decide +kernel
theorem d24_19 : decode jdk_43_method_23_code 19 = .ok (.if_icmp .ne 6, 3) := by decide +kernel
theorem d24_22 : decode jdk_43_method_23_code 22 = .ok (.iload 5, 2) := by decide +kernel
theorem d24_24 : decode jdk_43_method_23_code 24 = .ok (.ireturn, 1) := by decide +kernel
theorem d24_25 : decode jdk_43_method_23_code 25 = .ok (.iinc 5 1, 3) := by decide +kernel
theorem d24_28 : decode jdk_43_method_23_code 28 = .ok (.goto (-21), 3) := by decide +kernel
theorem d24_31 : decode jdk_43_method_23_code 31 = .ok (.iconst (-1), 1) := by decide +kernel
theorem d24_32 : decode jdk_43_method_23_code 32 = .ok (.ireturn, 1) := by decide +kernel
theorem d25_0 : decode jdk_42_method_56_code 0 = .ok (.aload_n 0, 1) := by decide +kernel
theorem d25_1 : decode jdk_42_method_56_code 1 = .ok (.invokevirtual 492, 3) := by decide +kernel
theorem d25_4 : decode jdk_42_method_56_code 4 = .ok (.ifCond .eq 12, 3) := by decide +kernel
theorem d25_7 : decode jdk_42_method_56_code 7 = .ok (.aload_n 0, 1) := by decide +kernel
theorem d25_8 : decode jdk_42_method_56_code 8 = .ok (.getfield 9, 3) := by decide +kernel
theorem d25_11 : decode jdk_42_method_56_code 11 = .ok (.iload_n 1, 1) := by decide +kernel
theorem d25_12 : decode jdk_42_method_56_code 12 = .ok (.invokestatic 495, 3) := by decide +kernel
theorem d25_15 : decode jdk_42_method_56_code 15 = .ok (.ireturn, 1) := by decide +kernel
theorem d26_0 : decode jdk_43_method_2_code 0 = .ok (.iload_n 1, 1) := by decide +kernel
theorem d26_1 : decode jdk_43_method_2_code 1 = .ok (.aload_n 0, 1) := by decide +kernel
theorem d26_2 : decode jdk_43_method_2_code 2 = .ok (.arraylength, 1) := by decide +kernel
theorem d26_3 : decode jdk_43_method_2_code 3 = .ok (.invokestatic 9, 3) := by decide +kernel
theorem d26_6 : decode jdk_43_method_2_code 6 = .ok (.aload_n 0, 1) := by decide +kernel
theorem d26_7 : decode jdk_43_method_2_code 7 = .ok (.iload_n 1, 1) := by decide +kernel
theorem d26_8 : decode jdk_43_method_2_code 8 = .ok (.baload, 1) := by decide +kernel
theorem d26_9 : decode jdk_43_method_2_code 9 = .ok (.sipush 255, 3) := by decide +kernel
theorem d26_12 : decode jdk_43_method_2_code 12 = .ok (.iand, 1) := by decide +kernel
theorem d26_13 : decode jdk_43_method_2_code 13 = .ok (.i2c, 1) := by decide +kernel
theorem d26_14 : decode jdk_43_method_2_code 14 = .ok (.ireturn, 1) := by decide +kernel
theorem d27_0 : decode jdk_42_method_155_code 0 = .ok (.iload_n 0, 1) := by decide +kernel
theorem d27_1 : decode jdk_42_method_155_code 1 = .ok (.iload_n 1, 1) := by decide +kernel
theorem d27_2 : decode jdk_42_method_155_code 2 = .ok (.getstatic 1053, 3) := by decide +kernel
theorem d27_5 : decode jdk_42_method_155_code 5 = .ok (.invokestatic 1059, 3) := by decide +kernel
theorem d27_8 : decode jdk_42_method_155_code 8 = .ok (.pop, 1) := by decide +kernel
theorem d27_9 : decode jdk_42_method_155_code 9 = .ok (.return_, 1) := by decide +kernel
theorem d28_0 : decode jdk_41_method_11_code 0 = .ok (.iload_n 0, 1) := by decide +kernel
theorem d28_1 : decode jdk_41_method_11_code 1 = .ok (.ifCond .lt 8, 3) := by decide +kernel
theorem d28_4 : decode jdk_41_method_11_code 4 = .ok (.iload_n 0, 1) := by decide +kernel
theorem d28_5 : decode jdk_41_method_11_code 5 = .ok (.iload_n 1, 1) := by decide +kernel
theorem d28_6 : decode jdk_41_method_11_code 6 = .ok (.if_icmp .lt 10, 3) := by decide +kernel
theorem d28_16 : decode jdk_41_method_11_code 16 = .ok (.iload_n 0, 1) := by decide +kernel
theorem d28_17 : decode jdk_41_method_11_code 17 = .ok (.ireturn, 1) := by decide +kernel
theorem d29_0 : decode method_4_code 0 = .ok (.iload_n 2, 1) := by decide +kernel
theorem d29_1 : decode method_4_code 1 = .ok (.ifCond .gt 18, 3) := by decide +kernel
theorem d29_4 : decode method_4_code 4 = .ok (.iconst 0, 1) := by decide +kernel
theorem d29_5 : decode method_4_code 5 = .ok (.iload_n 1, 1) := by decide +kernel
theorem d29_6 : decode method_4_code 6 = .ok (.if_icmp .ge 13, 3) := by decide +kernel
theorem d29_9 : decode method_4_code 9 = .ok (.aload_n 0, 1) := by decide +kernel
theorem d29_10 : decode method_4_code 10 = .ok (.iconst 0, 1) := by decide +kernel
theorem d29_11 : decode method_4_code 11 = .ok (.caload, 1) := by decide +kernel
theorem d29_12 : decode method_4_code 12 = .ok (.bipush 32, 2) := by decide +kernel
theorem d29_14 : decode method_4_code 14 = .ok (.if_icmp .ne 5, 3) := by decide +kernel
theorem d29_17 : decode method_4_code 17 = .ok (.iconst 0, 1) := by decide +kernel
theorem d29_18 : decode method_4_code 18 = .ok (.ireturn, 1) := by decide +kernel
theorem d29_19 : decode method_4_code 19 = .ok (.iload_n 2, 1) := by decide +kernel
theorem d29_20 : decode method_4_code 20 = .ok (.iconst 1, 1) := by decide +kernel
theorem d29_21 : decode method_4_code 21 = .ok (.if_icmp .gt 18, 3) := by decide +kernel
theorem d29_24 : decode method_4_code 24 = .ok (.iconst 1, 1) := by decide +kernel
theorem d29_25 : decode method_4_code 25 = .ok (.iload_n 1, 1) := by decide +kernel
theorem d29_26 : decode method_4_code 26 = .ok (.if_icmp .ge 13, 3) := by decide +kernel
theorem d29_29 : decode method_4_code 29 = .ok (.aload_n 0, 1) := by decide +kernel
theorem d29_30 : decode method_4_code 30 = .ok (.iconst 1, 1) := by decide +kernel
theorem d29_31 : decode method_4_code 31 = .ok (.caload, 1) := by decide +kernel
theorem d29_32 : decode method_4_code 32 = .ok (.bipush 32, 2) := by decide +kernel
theorem d29_34 : decode method_4_code 34 = .ok (.if_icmp .ne 5, 3) := by decide +kernel
theorem d29_37 : decode method_4_code 37 = .ok (.iconst 1, 1) := by decide +kernel
theorem d29_38 : decode method_4_code 38 = .ok (.ireturn, 1) := by decide +kernel
theorem d29_39 : decode method_4_code 39 = .ok (.iload_n 2, 1) := by decide +kernel
theorem d29_40 : decode method_4_code 40 = .ok (.iconst 2, 1) := by decide +kernel
theorem d29_41 : decode method_4_code 41 = .ok (.if_icmp .gt 18, 3) := by decide +kernel
theorem d29_44 : decode method_4_code 44 = .ok (.iconst 2, 1) := by decide +kernel
theorem d29_45 : decode method_4_code 45 = .ok (.iload_n 1, 1) := by decide +kernel
theorem d29_46 : decode method_4_code 46 = .ok (.if_icmp .ge 13, 3) := by decide +kernel
theorem d29_49 : decode method_4_code 49 = .ok (.aload_n 0, 1) := by decide +kernel
theorem d29_50 : decode method_4_code 50 = .ok (.iconst 2, 1) := by decide +kernel
theorem d29_51 : decode method_4_code 51 = .ok (.caload, 1) := by decide +kernel
theorem d29_52 : decode method_4_code 52 = .ok (.bipush 32, 2) := by decide +kernel
theorem d29_54 : decode method_4_code 54 = .ok (.if_icmp .ne 5, 3) := by decide +kernel
theorem d29_57 : decode method_4_code 57 = .ok (.iconst 2, 1) := by decide +kernel
theorem d29_58 : decode method_4_code 58 = .ok (.ireturn, 1) := by decide +kernel
theorem d29_59 : decode method_4_code 59 = .ok (.iload_n 2, 1) := by decide +kernel
theorem d29_60 : decode method_4_code 60 = .ok (.iconst 3, 1) := by decide +kernel
theorem d29_61 : decode method_4_code 61 = .ok (.if_icmp .gt 18, 3) := by decide +kernel
theorem d29_64 : decode method_4_code 64 = .ok (.iconst 3, 1) := by decide +kernel
theorem d29_65 : decode method_4_code 65 = .ok (.iload_n 1, 1) := by decide +kernel
theorem d29_66 : decode method_4_code 66 = .ok (.if_icmp .ge 13, 3) := by decide +kernel
theorem d29_69 : decode method_4_code 69 = .ok (.aload_n 0, 1) := by decide +kernel
theorem d29_70 : decode method_4_code 70 = .ok (.iconst 3, 1) := by decide +kernel
theorem d29_71 : decode method_4_code 71 = .ok (.caload, 1) := by decide +kernel
theorem d29_72 : decode method_4_code 72 = .ok (.bipush 32, 2) := by decide +kernel
theorem d29_74 : decode method_4_code 74 = .ok (.if_icmp .ne 5, 3) := by decide +kernel
theorem d29_77 : decode method_4_code 77 = .ok (.iconst 3, 1) := by decide +kernel
theorem d29_78 : decode method_4_code 78 = .ok (.ireturn, 1) := by decide +kernel
theorem d29_79 : decode method_4_code 79 = .ok (.iload_n 2, 1) := by decide +kernel
theorem d29_80 : decode method_4_code 80 = .ok (.iconst 4, 1) := by decide +kernel
theorem d29_81 : decode method_4_code 81 = .ok (.if_icmp .gt 18, 3) := by decide +kernel
theorem d29_84 : decode method_4_code 84 = .ok (.iconst 4, 1) := by decide +kernel
theorem d29_85 : decode method_4_code 85 = .ok (.iload_n 1, 1) := by decide +kernel
theorem d29_86 : decode method_4_code 86 = .ok (.if_icmp .ge 13, 3) := by decide +kernel
theorem d29_89 : decode method_4_code 89 = .ok (.aload_n 0, 1) := by decide +kernel
theorem d29_90 : decode method_4_code 90 = .ok (.iconst 4, 1) := by decide +kernel
theorem d29_91 : decode method_4_code 91 = .ok (.caload, 1) := by decide +kernel
theorem d29_92 : decode method_4_code 92 = .ok (.bipush 32, 2) := by decide +kernel
theorem d29_94 : decode method_4_code 94 = .ok (.if_icmp .ne 5, 3) := by decide +kernel
theorem d29_97 : decode method_4_code 97 = .ok (.iconst 4, 1) := by decide +kernel
theorem d29_98 : decode method_4_code 98 = .ok (.ireturn, 1) := by decide +kernel
theorem d29_99 : decode method_4_code 99 = .ok (.iload_n 1, 1) := by decide +kernel
theorem d29_100 : decode method_4_code 100 = .ok (.ireturn, 1) := by decide +kernel
theorem pd0 : parseMethodDescriptor "()B" = some ⟨[], some .byte⟩ := by decide +kernel
theorem pd1 : parseMethodDescriptor "(IILjava/util/function/BiFunction;)I" = some ⟨[.int, .int, (.object "java/util/function/BiFunction")], some .int⟩ := by decide +kernel
theorem pd2 : parseMethodDescriptor "(II)V" = some ⟨[.int, .int], none⟩ := by decide +kernel
theorem pd3 : parseMethodDescriptor "()Z" = some ⟨[], some .boolean⟩ := by decide +kernel
theorem pd4 : parseMethodDescriptor "([BI)C" = some ⟨[(.array .byte), .int], some .char⟩ := by decide +kernel
theorem pd5 : parseMethodDescriptor "(I)Z" = some ⟨[.int], some .boolean⟩ := by decide +kernel
theorem pd6 : parseMethodDescriptor "(II)I" = some ⟨[.int, .int], some .int⟩ := by decide +kernel
theorem pd7 : parseMethodDescriptor "([BIII)I" = some ⟨[(.array .byte), .int, .int, .int], some .int⟩ := by decide +kernel
theorem pd8 : parseMethodDescriptor "()I" = some ⟨[], some .int⟩ := by decide +kernel
theorem pd9 : parseMethodDescriptor "([CI[BII)I" = some ⟨[(.array .char), .int, (.array .byte), .int, .int], some .int⟩ := by decide +kernel
theorem pd10 : parseMethodDescriptor "([CII)[B" = some ⟨[(.array .char), .int, .int], some (.array .byte)⟩ := by decide +kernel
theorem pd11 : parseMethodDescriptor "([BI)B" = some ⟨[(.array .byte), .int], some .byte⟩ := by decide +kernel
theorem pd12 : parseMethodDescriptor "([CIILjava/lang/Void;)V" = some ⟨[(.array .char), .int, .int, (.object "java/lang/Void")], none⟩ := by decide +kernel
theorem pd13 : parseMethodDescriptor "(C)Z" = some ⟨[.char], some .boolean⟩ := by decide +kernel
theorem pd14 : parseMethodDescriptor "(C)[B" = some ⟨[.char], some (.array .byte)⟩ := by decide +kernel
theorem pd15 : parseMethodDescriptor "([BB)V" = some ⟨[(.array .byte), .byte], none⟩ := by decide +kernel
theorem pd16 : parseMethodDescriptor "([C)V" = some ⟨[(.array .char)], none⟩ := by decide +kernel
theorem pd17 : parseMethodDescriptor "(C)Ljava/lang/String;" = some ⟨[.char], some (.object "java/lang/String")⟩ := by decide +kernel
theorem pd18 : parseMethodDescriptor "(I)C" = some ⟨[.int], some .char⟩ := by decide +kernel
theorem pd19 : parseMethodDescriptor "(II)C" = some ⟨[.int, .int], some .char⟩ := by decide +kernel
theorem pd20 : parseMethodDescriptor "([CI)Ljava/lang/String;" = some ⟨[(.array .char), .int], some (.object "java/lang/String")⟩ := by decide +kernel
theorem pd21 : parseMethodDescriptor "(Ljava/lang/String;I)V" = some ⟨[(.object "java/lang/String"), .int], none⟩ := by decide +kernel
theorem pd22 : parseMethodDescriptor "(Ljava/lang/String;)I" = some ⟨[(.object "java/lang/String")], some .int⟩ := by decide +kernel
theorem pd23 : parseMethodDescriptor "([CII)I" = some ⟨[(.array .char), .int, .int], some .int⟩ := by decide +kernel

/-- a String of n chars, each 0 to 255: its byte array at b spells them -/
def Str (Z : State) (h : Heap) (s b : Addr) (k : ClassId) (n : Nat) (f : Nat → Int32) : Prop :=
  Exa Z h s "java/lang/String" ∧ Fld Z h s "java/lang/String" "coder" "B" (.int 0) ∧ Fld Z h s "java/lang/String" "value" "[B" (.ref b) ∧ Arf Z h b k .byte n (fun i => .int (f i))
section StrS
variable {Z : State} {h h' : Heap} {s b a : Addr} {k : ClassId} {n sl : Nat} {f : Nat → Int32} {v : Value} {ws : List Addr}
theorem Str.ext (F : Str Z h s b k n f) (E : Ext h h') : Str Z h' s b k n f := ⟨F.1.ext E, F.2.1.ext E, F.2.2.1.ext E, F.2.2.2.ext E⟩
theorem Str.other (F : Str Z h s b k n f) (W : Wr h h' a sl v) (q : s ≠ a) (q' : b ≠ a) : Str Z h' s b k n f := ⟨F.1.wr W, F.2.1.other W (Or.inl q), F.2.2.1.other W (Or.inl q), F.2.2.2.other W q'⟩
theorem Str.keep (F : Str Z h s b k n f) (K : Keep h h' ws) (q : s ∉ ws) (q' : b ∉ ws) : Str Z h' s b k n f := ⟨F.1.keep K, F.2.1.keep K q, F.2.2.1.keep K q, F.2.2.2.keep K q'⟩
theorem Str.lt (F : Str Z h s b k n f) : s < h.size := F.1.lt
theorem Str.lt' (F : Str Z h s b k n f) : b < h.size := F.2.2.2.lt
end StrS
theorem step_set {α : Type} {g : Nat → α} {f : Nat → α} (x : Nat) (j : Int) (h : 0 ≤ j) : (if x = j.toNat then f j.toNat else if x < j.toNat then f x else g x) = if x < (j + 1).toNat then f x else g x := by
  rcases Nat.lt_trichotomy x j.toNat with q | q | q
  · rw [if_neg (by omega), if_pos q, if_pos (by omega)]
  · rw [if_pos q, if_pos (by omega), q]
  · rw [if_neg (by omega), if_neg (by omega), if_neg (by omega)]
theorem byte_inj {x y : Int32} (h1 : 0 ≤ x.toInt) (h2 : x.toInt ≤ 255) (h3 : 0 ≤ y.toInt) (h4 : y.toInt ≤ 255) (e : x.toInt8.toInt32 = y.toInt8.toInt32) : x = y := by
  have a := c_i2b x; have b := c_i2b y; rw [e] at a; exact of_toInt (by omega)

theorem shr0 (z : Int32) : z >>> ((0 : Int32) &&& 31) = z := of_toInt (by rw [c_ishr z 0 0 (by decide)]; simp)
theorem chr_of (b : Int32) : ((b &&& 255).toUInt32.toUInt16.toUInt32.toInt32).toInt = b.toInt % 256 := by
  have h1 := c_mask b 255 8 (by decide) (by decide)
  have h2 := c_i2c (b &&& 255)
  omega
theorem nr_char {r : Int32} (h1 : 0 ≤ r.toInt) (h2 : r.toInt < 65536) : narrow .char (.int r) = .int r := congrArg Value.int (of_toInt (by have := c_i2c r; omega))
theorem nr_i2c (x : Int32) : narrow .char (.int (x.toUInt32.toUInt16.toUInt32.toInt32)) = .int (x.toUInt32.toUInt16.toUInt32.toInt32) := nr_char (c_i2c x).2.1 (c_i2c x).2.2
theorem chr_byte {x : Int32} (h1 : 0 ≤ x.toInt) (h2 : x.toInt ≤ 255) : (x.toInt8.toInt32).toInt % 256 = x.toInt := by have := c_i2b x; omega
theorem s_isRef {s : State} {args : Array Value} {CC n d : String} (h0 : (Cond.initializedFor CC n d).before args s = true) (h1 : (Cond.isRef (Term.static CC n d)).before args s = true) : ∃ v : Value, Sta s s.heap CC n d v ∧ v.isRef = true := by
  obtain ⟨x, ev, hr⟩ := Cond.isRef_spec h1
  exact ⟨x, Sta.start ev (Or.inl h0), hr⟩

theorem lmul_toInt {x y : Int64} (h1 : -9223372036854775808 ≤ x.toInt * y.toInt) (h2 : x.toInt * y.toInt < 9223372036854775808) : (x * y).toInt = x.toInt * y.toInt := by
  have := c_lmul x y; have := rgL (x * y); omega
theorem nar_char {r : Int32} (h1 : 0 ≤ r.toInt) (h2 : r.toInt ≤ 255) : nar .char r = r := by
  have := c_i2c r; exact of_toInt (by simp only [nar]; omega)
theorem i5 {i : Nat} (h : i < 5) : i = 0 ∨ i = 1 ∨ i = 2 ∨ i = 3 ∨ i = 4 := by omega
/-- e is the first place from o on, below n, where a space stands, or n -/
def FS (cc : Nat → Int32) (n o e : Nat) : Prop := o ≤ e ∧ e ≤ n ∧ (∀ i, o ≤ i → i < e → (cc i).toInt ≠ 32) ∧ (e < n → (cc e).toInt = 32)
theorem FS.uniq {cc : Nat → Int32} {n o e e' : Nat} (F : FS cc n o e) (G : FS cc n o e') : e = e' := by
  rcases Nat.lt_trichotomy e e' with q | q | q
  · exact absurd (F.2.2.2 (Nat.lt_of_lt_of_le q G.2.1)) (G.2.2.1 e F.1 q)
  · exact q
  · exact absurd (G.2.2.2 (Nat.lt_of_lt_of_le q F.2.1)) (F.2.2.1 e' G.1 q)
theorem shru (x y : Int32) : 0 ≤ (((x.toUInt32 >>> (y &&& 31).toUInt32).toInt32 &&& (15 : Int32)) % (10 : Int32)).toInt ∧ (((x.toUInt32 >>> (y &&& 31).toUInt32).toInt32 &&& (15 : Int32)) % (10 : Int32)).toInt < 10 := rem_rng _ 10 rfl (by decide) (and_rng _ 15 rfl (by decide)).1

theorem pn_1 : plainFor (⟨"com/example/libinvariant/libinvariant/aiger/LineFieldsHasNextPinLaw", "ch", "(II)C"⟩ : MethodName) = true := plainFor_of_name (by first | (simp [plainName, overriddenIn]; done) | decide +kernel)
set_option maxRecDepth 65536 in
set_option maxHeartbeats 40000000 in
theorem chr {Z : State} {a0 : Array Value} (hw : HW a0 Z) (p z : Int32) (h0 : Heap) (n0 : Nat) (sf0 : List Addr) :
    MetW Z consts_1 sf0 (⟨"com/example/libinvariant/libinvariant/aiger/LineFieldsHasNextPinLaw", "ch", "(II)C"⟩ : MethodName) method_2_code 2 (some .char) [] ({ frames := 0, cells := 0, slots := 0, locals := 0 } : Room) #[(.int p), (.int z)] h0 n0 (fun v h sf => ∃ r : Int32, v = some (.int r) ∧ h = h0 ∧ 0 ≤ r.toInt ∧ r.toInt ≤ 255 ∧ (r.toInt = 32 ∨ (48 ≤ r.toInt ∧ r.toInt ≤ 57))) := by
  refine k_body (hEW hw) (f := (fun m => mkF m 0 #[.val (.int p), .val (.int z)] [])) pn_1 (fun m => by first | (simp [entryFrame, mkF, argsToLocals, Value.category, maxLocals]; done) | rfl) ?_
  intro Γ T G X
  show Go Γ n0 _ T (mkF Γ.m 0 #[.val (.int p), .val (.int z)] [])
  refine k_iloadN G X d1_0 (pc' := 1) rfl rfl ?_
  refine k_iloadN G X d1_1 (pc' := 2) rfl rfl ?_
  refine k_iushr G X d1_2 (pc' := 3) rfl rfl ?_
  refine k_iconst G X d1_3 (pc' := 4) rfl (z := (1 : Int32)) (by decide) ?_
  refine k_iand G X d1_4 (pc' := 5) rfl rfl ?_
  refine k_if_eq G X d1_5 (pc' := 11) rfl (by decide) (pc'' := 8) rfl (fun c5 => ?_) (fun c5 => ?_)
  · refine k_bipush G X d1_11 (pc' := 13) rfl (z := (48 : Int32)) (by decide) ?_
    refine k_iloadN G X d1_13 (pc' := 14) rfl rfl ?_
    refine k_iconst G X d1_14 (pc' := 15) rfl (z := (5 : Int32)) (by decide) ?_
    refine k_iconst G X d1_15 (pc' := 16) rfl (z := (4 : Int32)) (by decide) ?_
    refine k_iloadN G X d1_16 (pc' := 17) rfl rfl ?_
    refine k_imul G X d1_17 (pc' := 18) rfl rfl ?_
    refine k_iadd G X d1_18 (pc' := 19) rfl rfl ?_
    refine k_iushr G X d1_19 (pc' := 20) rfl rfl ?_
    refine k_bipush G X d1_20 (pc' := 22) rfl (z := (15 : Int32)) (by decide) ?_
    refine k_iand G X d1_22 (pc' := 23) rfl rfl ?_
    refine k_bipush G X d1_23 (pc' := 25) rfl (z := (10 : Int32)) (by decide) ?_
    refine k_irem G X d1_25 (pc' := 26) rfl (by decide) rfl ?_
    refine k_iadd G X d1_26 (pc' := 27) rfl rfl ?_
    refine k_i2c G X d1_27 (pc' := 28) rfl rfl ?_
    refine k_retb G X d1_28 (t := .char) rfl (by simp) (nr_i2c _) ?_ (by decide) (by decide)
    have m1 := shru p ((5 : Int32) + ((4 : Int32) * z))
    have m0 : (48 : Int32).toInt = 48 := rfl
    have m2 : ((48 : Int32) + (((p.toUInt32 >>> (((5 : Int32) + ((4 : Int32) * z)) &&& 31).toUInt32).toInt32) &&& (15 : Int32)) % (10 : Int32)).toInt = 48 + ((((p.toUInt32 >>> (((5 : Int32) + ((4 : Int32) * z)) &&& 31).toUInt32).toInt32) &&& (15 : Int32)) % (10 : Int32)).toInt := iadd_toInt (by omega) (by omega)
    have m3 := c_i2c ((48 : Int32) + (((p.toUInt32 >>> (((5 : Int32) + ((4 : Int32) * z)) &&& 31).toUInt32).toInt32) &&& (15 : Int32)) % (10 : Int32))
    exact ⟨_, rfl, rfl, by omega, by omega, Or.inr ⟨by omega, by omega⟩⟩
  · refine k_bipush G X d1_8 (pc' := 10) rfl (z := (32 : Int32)) (by decide) ?_
    refine k_retb G X d1_10 (t := .char) rfl (by simp) rfl ?_ (by decide) (by decide)
    exact ⟨_, rfl, rfl, by decide, by decide, Or.inl rfl⟩
theorem pn_19 : plainFor (⟨"java/lang/String", "isLatin1", "()Z"⟩ : MethodName) = true := plainFor_of_name (by first | (simp [plainName, overriddenIn]; done) | decide +kernel)
set_option maxRecDepth 65536 in
set_option maxHeartbeats 40000000 in
theorem str_lat {Z : State} {a0 : Array Value} (hw : HW a0 Z) (s b : Addr) (k : ClassId) (n : Nat) (z cs : Int32) (f : Nat → Int32) (h0 : Heap) (n0 : Nat) (sf0 : List Addr) (SS : Str Z h0 s b k n f) (hz : z.toInt = n) (S_CS : Sta Z h0 "java/lang/String" "COMPACT_STRINGS" "Z" (.int cs)) (hcs : cs ≠ 0) :
    MetW Z consts_1 sf0 (⟨"java/lang/String", "isLatin1", "()Z"⟩ : MethodName) jdk_42_method_154_code 1 (some .boolean) [] ({ frames := 0, cells := 0, slots := 0, locals := 0 } : Room) #[(.ref s)] h0 n0 (fun v h sf => v = some (.int 1) ∧ h = h0) := by
  refine k_body (hEW hw) (f := (fun m => mkF m 0 #[.val (.ref s)] [])) pn_19 (fun m => by first | (simp [entryFrame, mkF, argsToLocals, Value.category, maxLocals]; done) | rfl) ?_
  intro Γ T G X
  obtain ⟨SE, SC, SV, SA⟩ := id SS
  show Go Γ n0 _ T (mkF Γ.m 0 #[.val (.ref s)] [])
  refine k_getS G X (host := "") (Or.inl (w46 hw)) Via.refl S_CS d19_0 (pc' := 3) rfl (fun T X => ?_)
  refine k_if_eq G X d19_3 (pc' := 17) rfl (by decide) (pc'' := 6) rfl (fun c3 => (absurd c3 hcs)) (fun c3 => ?_)
  refine k_aloadN G X d19_6 (pc' := 7) rfl rfl rfl ?_
  refine k_getF G X (host := "") (Or.inl (w47 hw)) Via.refl SC d19_7 (pc' := 10) rfl (fun T X => ?_)
  refine k_if_ne G X d19_10 (pc' := 17) rfl (by decide) (pc'' := 13) rfl (fun c10 => (absurd c10 (by decide))) (fun c10 => ?_)
  refine k_iconst G X d19_13 (pc' := 14) rfl (z := (1 : Int32)) (by decide) ?_
  refine k_goto G X d19_14 (by decide) (pc' := 18) rfl ?_
  refine k_retb G X d19_18 (t := .boolean) rfl (by simp) rfl ?_ (by decide) (by decide)
  exact ⟨rfl, rfl⟩
theorem pn_7 : plainFor (⟨"java/lang/String", "coder", "()B"⟩ : MethodName) = true := plainFor_of_name (by first | (simp [plainName, overriddenIn]; done) | decide +kernel)
set_option maxRecDepth 65536 in
set_option maxHeartbeats 40000000 in
theorem str_cod1 {Z : State} {a0 : Array Value} (hw : HW a0 Z) (s b : Addr) (k : ClassId) (n : Nat) (z cs : Int32) (f : Nat → Int32) (h0 : Heap) (n0 : Nat) (sf0 : List Addr) (SS : Str Z h0 s b k n f) (hz : z.toInt = n) (S_CS : Sta Z h0 "java/lang/String" "COMPACT_STRINGS" "Z" (.int cs)) (hcs : cs ≠ 0) :
    MetW Z consts_1 sf0 (⟨"java/lang/String", "coder", "()B"⟩ : MethodName) jdk_42_method_152_code 1 (some .byte) [] ({ frames := 0, cells := 0, slots := 0, locals := 0 } : Room) #[(.ref s)] h0 n0 (fun v h sf => v = some (.int 0) ∧ h = h0) := by
  refine k_body (hEW hw) (f := (fun m => mkF m 0 #[.val (.ref s)] [])) pn_7 (fun m => by first | (simp [entryFrame, mkF, argsToLocals, Value.category, maxLocals]; done) | rfl) ?_
  intro Γ T G X
  obtain ⟨SE, SC, SV, SA⟩ := id SS
  show Go Γ n0 _ T (mkF Γ.m 0 #[.val (.ref s)] [])
  refine k_getS G X (host := "") (Or.inl (w46 hw)) Via.refl S_CS d7_0 (pc' := 3) rfl (fun T X => ?_)
  refine k_if_eq G X d7_3 (pc' := 13) rfl (by decide) (pc'' := 6) rfl (fun c3 => (absurd c3 hcs)) (fun c3 => ?_)
  refine k_aloadN G X d7_6 (pc' := 7) rfl rfl rfl ?_
  refine k_getF G X (host := "") (Or.inl (w47 hw)) Via.refl SC d7_7 (pc' := 10) rfl (fun T X => ?_)
  refine k_goto G X d7_10 (by decide) (pc' := 14) rfl ?_
  refine k_retb G X d7_14 (t := .byte) rfl (by simp) rfl ?_ (by decide) (by decide)
  exact ⟨rfl, rfl⟩
theorem pn_6 : plainFor (⟨"java/lang/String", "length", "()I"⟩ : MethodName) = true := plainFor_of_name (by first | (simp [plainName, overriddenIn]; done) | decide +kernel)
set_option maxRecDepth 65536 in
set_option maxHeartbeats 40000000 in
theorem str_len {Z : State} {a0 : Array Value} (hw : HW a0 Z) (s b : Addr) (k : ClassId) (n : Nat) (z cs : Int32) (f : Nat → Int32) (h0 : Heap) (n0 : Nat) (sf0 : List Addr) (SS : Str Z h0 s b k n f) (hz : z.toInt = n) (S_CS : Sta Z h0 "java/lang/String" "COMPACT_STRINGS" "Z" (.int cs)) (hcs : cs ≠ 0) :
    MetW Z consts_1 sf0 (⟨"java/lang/String", "length", "()I"⟩ : MethodName) jdk_42_method_54_code 1 (some .int) [] ({ frames := 1, cells := 0, slots := 0, locals := 13 } : Room) #[(.ref s)] h0 n0 (fun v h sf => v = some (.int z) ∧ h = h0) := by
  refine k_body (hEW hw) (f := (fun m => mkF m 0 #[.val (.ref s)] [])) pn_6 (fun m => by first | (simp [entryFrame, mkF, argsToLocals, Value.category, maxLocals]; done) | rfl) ?_
  intro Γ T G X
  obtain ⟨SE, SC, SV, SA⟩ := id SS
  show Go Γ n0 _ T (mkF Γ.m 0 #[.val (.ref s)] [])
  refine k_aloadN G X d6_0 (pc' := 1) rfl rfl rfl ?_
  refine k_getF G X (host := "") (Or.inl (w40 hw)) Via.refl SV d6_1 (pc' := 4) rfl (fun T X => ?_)
  refine k_alen G X (z := z) SA hz d6_4 (pc' := 5) rfl ?_
  refine k_aloadN G X d6_5 (pc' := 6) rfl rfl rfl ?_
  refine k_callV G X (argsL := []) (rest := [(.int z)]) rfl SE (w41 hw) (w42 hw) (nf_sel (w44 hw)) (w44 hw) (w43 hw) (w10 hw) (w45 hw) (by decide) (str_cod1 hw s b k n z cs f h0 n0 _ SS hz S_CS hcs) d6_6 pd0 rfl (pc' := 9) rfl rfl (wd := 1) rfl (by decide) (by decide) (by decide) (by decide) (fun T h6 v sf6 X q => ?_)
  replace X := W.drop X
  obtain ⟨rfl, e6⟩ := q
  replace X := X.eq e6
  show Go Γ n0 _ T (mkF Γ.m 9 #[.val (.ref s)] [(.int (0 : Int32)), (.int z)])
  refine k_ishr G X d6_9 (pc' := 10) rfl rfl ?_
  rw [shr0 z]
  refine k_reti G X d6_10 rfl ?_ (by decide) (by decide)
  exact ⟨rfl, rfl⟩
theorem pn_28 : plainFor (⟨"jdk/internal/util/Preconditions", "checkIndex", "(IILjava/util/function/BiFunction;)I"⟩ : MethodName) = true := plainFor_of_name (by first | (simp [plainName, overriddenIn]; done) | decide +kernel)
set_option maxRecDepth 65536 in
set_option maxHeartbeats 40000000 in
theorem pre_idx {Z : State} {a0 : Array Value} (hw : HW a0 Z) (j z : Int32) (fm : Value) (h0 : Heap) (n0 : Nat) (sf0 : List Addr) (hj : 0 ≤ j.toInt) (hjz : j.toInt < z.toInt) (hfm : fm.isRef = true) :
    MetW Z consts_1 sf0 (⟨"jdk/internal/util/Preconditions", "checkIndex", "(IILjava/util/function/BiFunction;)I"⟩ : MethodName) jdk_41_method_11_code 3 (some .int) [] ({ frames := 0, cells := 0, slots := 0, locals := 0 } : Room) #[(.int j), (.int z), fm] h0 n0 (fun v h sf => v = some (.int j) ∧ h = h0) := by
  refine k_body (hEW hw) (f := (fun m => mkF m 0 #[.val (.int j), .val (.int z), .val fm] [])) pn_28 (fun m => by rcases ref_cases hfm with rfl | ⟨a, rfl⟩ <;> first | (simp [entryFrame, mkF, argsToLocals, Value.category, maxLocals]; done) | rfl) ?_
  intro Γ T G X
  show Go Γ n0 _ T (mkF Γ.m 0 #[.val (.int j), .val (.int z), .val fm] [])
  refine k_iloadN G X d28_0 (pc' := 1) rfl rfl ?_
  refine k_if_lt G X d28_1 (pc' := 9) rfl (by decide) (pc'' := 4) rfl (fun c1 => (absurd c1 (by omega))) (fun c1 => ?_)
  refine k_iloadN G X d28_4 (pc' := 5) rfl rfl ?_
  refine k_iloadN G X d28_5 (pc' := 6) rfl rfl ?_
  refine k_icmp_lt G X d28_6 (pc' := 16) rfl (by decide) (pc'' := 9) rfl (fun c6 => ?_) (fun c6 => (absurd c6 (by omega)))
  refine k_iloadN G X d28_16 (pc' := 17) rfl rfl ?_
  refine k_reti G X d28_17 rfl ?_ (by decide) (by decide)
  exact ⟨rfl, rfl⟩
theorem pn_27 : plainFor (⟨"java/lang/String", "checkIndex", "(II)V"⟩ : MethodName) = true := plainFor_of_name (by first | (simp [plainName, overriddenIn]; done) | decide +kernel)
set_option maxRecDepth 65536 in
set_option maxHeartbeats 40000000 in
theorem str_chk {Z : State} {a0 : Array Value} (hw : HW a0 Z) (j z : Int32) (fm : Value) (h0 : Heap) (n0 : Nat) (sf0 : List Addr) (hj : 0 ≤ j.toInt) (hjz : j.toInt < z.toInt) (S_FM : Sta Z h0 "jdk/internal/util/Preconditions" "SIOOBE_FORMATTER" "Ljava/util/function/BiFunction;" fm) (hfm : fm.isRef = true) :
    MetW Z consts_1 sf0 (⟨"java/lang/String", "checkIndex", "(II)V"⟩ : MethodName) jdk_42_method_155_code 2 none [] ({ frames := 1, cells := 0, slots := 0, locals := 14 } : Room) #[(.int j), (.int z)] h0 n0 (fun v h sf => v = none ∧ h = h0) := by
  refine k_body (hEW hw) (f := (fun m => mkF m 0 #[.val (.int j), .val (.int z)] [])) pn_27 (fun m => by first | (simp [entryFrame, mkF, argsToLocals, Value.category, maxLocals]; done) | rfl) ?_
  intro Γ T G X
  show Go Γ n0 _ T (mkF Γ.m 0 #[.val (.int j), .val (.int z)] [])
  refine k_iloadN G X d27_0 (pc' := 1) rfl rfl ?_
  refine k_iloadN G X d27_1 (pc' := 2) rfl rfl ?_
  refine k_getS G X (host := "") (Or.inl (w125 hw)) Via.refl S_FM d27_2 (pc' := 5) rfl (fun T X => ?_)
  refine k_callS G X (argsL := [(.int j), (.int z), fm]) (rest := []) rfl (w127 hw) (w128 hw) (w126 hw) (w129 hw) (by decide) (pre_idx hw j z fm h0 n0 _ hj hjz hfm) d27_5 pd1 rfl (pc' := 8) rfl rfl (wd := 0) rfl (by decide) (by decide) (by decide) (by decide) (fun T h5 v sf5 X q => ?_)
  replace X := W.drop X
  obtain ⟨rfl, e5⟩ := q
  replace X := X.eq e5
  show Go Γ n0 _ T (mkF Γ.m 8 #[.val (.int j), .val (.int z)] [(.int j)])
  refine k_pop G X d27_8 (pc' := 9) rfl rfl ?_
  refine k_retv G X d27_9 rfl ?_ (by decide) (by decide)
  exact ⟨rfl, rfl⟩
theorem pn_26 : plainFor (⟨"java/lang/StringLatin1", "charAt", "([BI)C"⟩ : MethodName) = true := plainFor_of_name (by first | (simp [plainName, overriddenIn]; done) | decide +kernel)
set_option maxRecDepth 65536 in
set_option maxHeartbeats 40000000 in
theorem str_lch {Z : State} {a0 : Array Value} (hw : HW a0 Z) (b : Addr) (k : ClassId) (n i : Nat) (z j : Int32) (f : Nat → Int32) (fm : Value) (h0 : Heap) (n0 : Nat) (sf0 : List Addr) (SA : Arf Z h0 b k .byte n (fun i => .int (f i))) (hz : z.toInt = n) (hji : j.toInt = i) (hin : i < n) (S_FM : Sta Z h0 "jdk/internal/util/Preconditions" "SIOOBE_FORMATTER" "Ljava/util/function/BiFunction;" fm) (hfm : fm.isRef = true) :
    MetW Z consts_1 sf0 (⟨"java/lang/StringLatin1", "charAt", "([BI)C"⟩ : MethodName) jdk_43_method_2_code 2 (some .char) [] ({ frames := 2, cells := 0, slots := 0, locals := 27 } : Room) #[(.ref b), (.int j)] h0 n0 (fun v h sf => ∃ r : Int32, v = some (.int r) ∧ r.toInt = (f i).toInt % 256 ∧ h = h0) := by
  refine k_body (hEW hw) (f := (fun m => mkF m 0 #[.val (.ref b), .val (.int j)] [])) pn_26 (fun m => by first | (simp [entryFrame, mkF, argsToLocals, Value.category, maxLocals]; done) | rfl) ?_
  intro Γ T G X
  have hj : 0 ≤ j.toInt := by omega
  have hjz : j.toInt < z.toInt := by omega
  show Go Γ n0 _ T (mkF Γ.m 0 #[.val (.ref b), .val (.int j)] [])
  refine k_iloadN G X d26_0 (pc' := 1) rfl rfl ?_
  refine k_aloadN G X d26_1 (pc' := 2) rfl rfl rfl ?_
  refine k_alen G X (z := z) SA hz d26_2 (pc' := 3) rfl ?_
  refine k_callS G X (argsL := [(.int j), (.int z)]) (rest := []) rfl (w122 hw) (w123 hw) (w10 hw) (w124 hw) (by decide) (str_chk hw j z fm h0 n0 _ hj hjz S_FM hfm) d26_3 pd2 rfl (pc' := 6) rfl rfl (wd := 0) rfl (by decide) (by decide) (by decide) (by decide) (fun T h3 v sf3 X q => ?_)
  replace X := W.drop X
  obtain ⟨rfl, e3⟩ := q
  replace X := X.eq e3
  show Go Γ n0 _ T (mkF Γ.m 6 #[.val (.ref b), .val (.int j)] [])
  refine k_aloadN G X d26_6 (pc' := 7) rfl rfl rfl ?_
  refine k_iloadN G X d26_7 (pc' := 8) rfl rfl ?_
  refine k_baload G X (i := i) (v := (.int (f i))) SA hji hin rfl d26_8 (pc' := 9) rfl ?_
  refine k_sipush G X d26_9 (pc' := 12) rfl (z := (255 : Int32)) (by decide) ?_
  refine k_iand G X d26_12 (pc' := 13) rfl rfl ?_
  refine k_i2c G X d26_13 (pc' := 14) rfl rfl ?_
  refine k_retb G X d26_14 (t := .char) rfl (by simp) (nr_i2c _) ?_ (by decide) (by decide)
  exact ⟨_, rfl, chr_of _, rfl⟩
theorem pn_25 : plainFor (⟨"java/lang/String", "charAt", "(I)C"⟩ : MethodName) = true := plainFor_of_name (by first | (simp [plainName, overriddenIn]; done) | decide +kernel)
set_option maxRecDepth 65536 in
set_option maxHeartbeats 40000000 in
theorem str_at {Z : State} {a0 : Array Value} (hw : HW a0 Z) (s b : Addr) (k : ClassId) (n i : Nat) (z cs j : Int32) (f : Nat → Int32) (fm : Value) (h0 : Heap) (n0 : Nat) (sf0 : List Addr) (SS : Str Z h0 s b k n f) (hz : z.toInt = n) (S_CS : Sta Z h0 "java/lang/String" "COMPACT_STRINGS" "Z" (.int cs)) (hcs : cs ≠ 0) (hji : j.toInt = i) (hin : i < n) (S_FM : Sta Z h0 "jdk/internal/util/Preconditions" "SIOOBE_FORMATTER" "Ljava/util/function/BiFunction;" fm) (hfm : fm.isRef = true) :
    MetW Z consts_1 sf0 (⟨"java/lang/String", "charAt", "(I)C"⟩ : MethodName) jdk_42_method_56_code 2 (some .char) [] ({ frames := 3, cells := 0, slots := 0, locals := 40 } : Room) #[(.ref s), (.int j)] h0 n0 (fun v h sf => ∃ r : Int32, v = some (.int r) ∧ r.toInt = (f i).toInt % 256 ∧ h = h0) := by
  refine k_body (hEW hw) (f := (fun m => mkF m 0 #[.val (.ref s), .val (.int j)] [])) pn_25 (fun m => by first | (simp [entryFrame, mkF, argsToLocals, Value.category, maxLocals]; done) | rfl) ?_
  intro Γ T G X
  obtain ⟨SE, SC, SV, SA⟩ := id SS
  show Go Γ n0 _ T (mkF Γ.m 0 #[.val (.ref s), .val (.int j)] [])
  refine k_aloadN G X d25_0 (pc' := 1) rfl rfl rfl ?_
  refine k_callV G X (argsL := []) (rest := []) rfl SE (w92 hw) (w93 hw) (nf_sel (w95 hw)) (w95 hw) (w94 hw) (w10 hw) (w96 hw) (by decide) (str_lat hw s b k n z cs f h0 n0 _ SS hz S_CS hcs) d25_1 pd3 rfl (pc' := 4) rfl rfl (wd := 0) rfl (by decide) (by decide) (by decide) (by decide) (fun T h1 v sf1 X q => ?_)
  replace X := W.drop X
  obtain ⟨rfl, e1⟩ := q
  replace X := X.eq e1
  show Go Γ n0 _ T (mkF Γ.m 4 #[.val (.ref s), .val (.int j)] [(.int (1 : Int32))])
  refine k_if_eq G X d25_4 (pc' := 16) rfl (by decide) (pc'' := 7) rfl (fun c4 => (absurd c4 (by decide))) (fun c4 => ?_)
  refine k_aloadN G X d25_7 (pc' := 8) rfl rfl rfl ?_
  refine k_getF G X (host := "") (Or.inl (w40 hw)) Via.refl SV d25_8 (pc' := 11) rfl (fun T X => ?_)
  refine k_iloadN G X d25_11 (pc' := 12) rfl rfl ?_
  refine k_callS G X (argsL := [(.ref b), (.int j)]) (rest := []) rfl (w119 hw) (w120 hw) (w53 hw) (w121 hw) (by decide) (str_lch hw b k n i z j f fm h0 n0 _ SS.2.2.2 hz hji hin S_FM hfm) d25_12 pd4 rfl (pc' := 15) rfl rfl (wd := 0) rfl (by decide) (by decide) (by decide) (by decide) (fun T h12 v sf12 X q => ?_)
  replace X := W.drop X
  obtain ⟨r, rfl, hr, e12⟩ := q
  replace X := X.eq e12
  show Go Γ n0 _ T (mkF Γ.m 15 #[.val (.ref s), .val (.int j)] [(.int r)])
  have hnr : narrow .char (.int r) = .int r := nr_char (by omega) (by omega)
  refine k_retb G X d25_15 (t := .char) rfl (by simp) hnr ?_ (by decide) (by decide)
  exact ⟨_, rfl, hr, rfl⟩
theorem pn_24 : plainFor (⟨"java/lang/StringLatin1", "indexOfChar", "([BIII)I"⟩ : MethodName) = true := plainFor_of_name (by first | (simp [plainName, overriddenIn]; done) | decide +kernel)
set_option maxRecDepth 65536 in
set_option maxHeartbeats 40000000 in
theorem str_ixc {Z : State} {a0 : Array Value} (hw : HW a0 Z) (b : Addr) (k : ClassId) (n o : Nat) (z zo ch : Int32) (f : Nat → Int32) (h0 : Heap) (n0 : Nat) (sf0 : List Addr) (SA : Arf Z h0 b k .byte n (fun i => .int (f i))) (hz : z.toInt = n) (ho : zo.toInt = o) (hon : o < n) (hc0 : 0 ≤ ch.toInt) (hc1 : ch.toInt ≤ 127) :
    MetW Z consts_1 sf0 (⟨"java/lang/StringLatin1", "indexOfChar", "([BIII)I"⟩ : MethodName) jdk_43_method_23_code 6 (some .int) [] ({ frames := 0, cells := 0, slots := 0, locals := 0 } : Room) #[(.ref b), (.int ch), (.int zo), (.int z)] h0 n0 (fun v h sf => ∃ r : Int32, v = some (.int r) ∧ h = h0 ∧ ((∃ j : Nat, r.toInt = j ∧ o ≤ j ∧ j < n ∧ f j = ch ∧ ∀ i, o ≤ i → i < j → f i ≠ ch) ∨ (r.toInt = -1 ∧ ∀ i, o ≤ i → i < n → f i ≠ ch))) := by
  refine k_body (hEW hw) (f := (fun m => mkF m 0 #[.val (.ref b), .val (.int ch), .val (.int zo), .val (.int z), .unset, .unset] [])) pn_24 (fun m => by first | (simp [entryFrame, mkF, argsToLocals, Value.category, maxLocals]; done) | rfl) ?_
  intro Γ T G X
  show Go Γ n0 _ T (mkF Γ.m 0 #[.val (.ref b), .val (.int ch), .val (.int zo), .val (.int z), .unset, .unset] [])
  refine k_iloadN G X d24_0 (pc' := 1) rfl rfl ?_
  refine k_i2b G X d24_1 (pc' := 2) rfl rfl ?_
  rw [show ch.toInt8.toInt32 = ch from of_toInt (by have := c_i2b ch; omega)]
  refine k_istore G X d24_2 (pc' := 4) rfl (l' := #[.val (.ref b), .val (.int ch), .val (.int zo), .val (.int z), .val (.int ch), .unset]) rfl ?_
  refine k_iloadN G X d24_4 (pc' := 5) rfl rfl ?_
  refine k_istore G X d24_5 (pc' := 7) rfl (l' := #[.val (.ref b), .val (.int ch), .val (.int zo), .val (.int z), .val (.int ch), .val (.int zo)]) rfl ?_
  have LOOP : ∀ (k : Nat) (T : State) (i : Int32), (o ≤ i.toInt.toNat ∧ 0 ≤ i.toInt) → (i.toInt ≤ n) → (∀ x, o ≤ x → x < i.toInt.toNat → f x ≠ ch) → n - i.toInt.toNat = k → W Γ n0 T h0 0 0 (sf0) → Go Γ n0 (fun v h sf => ∃ r : Int32, v = some (.int r) ∧ h = h0 ∧ ((∃ j : Nat, r.toInt = j ∧ o ≤ j ∧ j < n ∧ f j = ch ∧ ∀ i, o ≤ i → i < j → f i ≠ ch) ∨ (r.toInt = -1 ∧ ∀ i, o ≤ i → i < n → f i ≠ ch))) T (mkF Γ.m 7 #[.val (.ref b), .val (.int ch), .val (.int zo), .val (.int z), .val (.int ch), .val (.int i)] []) := by
    intro k
    induction k using Nat.strongRecOn with
    | _ k ih =>
      intro T i hi0 hin hall hk X
      refine k_iload G X d24_7 (pc' := 9) rfl rfl ?_
      refine k_iloadN G X d24_9 (pc' := 10) rfl rfl ?_
      refine k_icmp_ge G X d24_10 (pc' := 31) rfl (by decide) (pc'' := 13) rfl (fun c10 => ?_) (fun c10 => ?_)
      · refine k_iconst G X d24_31 (pc' := 32) rfl (z := (-1 : Int32)) (by decide) ?_
        refine k_reti G X d24_32 rfl ?_ (by decide) (by decide)
        exact ⟨_, rfl, rfl, Or.inr ⟨rfl, fun x h1 h2 => hall x h1 (by omega)⟩⟩
      · have hlt : i.toInt < n := by omega
        have hi1 : (i + (1 : Int32)).toInt = i.toInt + 1 := iadd_toInt (by rw [show (1 : Int32).toInt = 1 from rfl]; omega) (by rw [show (1 : Int32).toInt = 1 from rfl]; have := SA.size_lt; omega)
        refine k_aloadN G X d24_13 (pc' := 14) rfl rfl rfl ?_
        refine k_iload G X d24_14 (pc' := 16) rfl rfl ?_
        refine k_baload G X (i := i.toInt.toNat) (v := (.int (f i.toInt.toNat))) SA (by omega) (by omega) rfl d24_16 (pc' := 17) rfl ?_
        refine k_iload G X d24_17 (pc' := 19) rfl rfl ?_
        refine k_icmp_ne G X d24_19 (pc' := 25) rfl (by decide) (pc'' := 22) rfl (fun c19 => ?_) (fun c19 => ?_)
        · refine k_iinc G X d24_25 (pc' := 28) rfl rfl (z := (i + (1 : Int32))) rfl (l' := #[.val (.ref b), .val (.int ch), .val (.int zo), .val (.int z), .val (.int ch), .val (.int (i + (1 : Int32)))]) rfl ?_
          refine k_goto G X d24_28 (by decide) (pc' := 7) rfl ?_
          exact ih _ (by rw [hi1]; omega) T (i + (1 : Int32)) (by omega) (by omega) (fun x h1 h2 => by rcases Nat.lt_or_ge x i.toInt.toNat with q | q; exact hall x h1 q; rw [show x = i.toInt.toNat by omega]; exact c19) rfl X
        · refine k_iload G X d24_22 (pc' := 24) rfl rfl ?_
          refine k_reti G X d24_24 rfl ?_ (by decide) (by decide)
          exact ⟨_, rfl, rfl, Or.inl ⟨i.toInt.toNat, by omega, by omega, by omega, c19, fun x h1 h2 => hall x h1 h2⟩⟩
  exact LOOP _ T zo (by omega) (by omega) (fun x h1 h2 => absurd h1 (by omega)) rfl X
theorem pn_21 : plainFor (⟨"java/lang/StringLatin1", "canEncode", "(I)Z"⟩ : MethodName) = true := plainFor_of_name (by first | (simp [plainName, overriddenIn]; done) | decide +kernel)
set_option maxRecDepth 65536 in
set_option maxHeartbeats 40000000 in
theorem str_can {Z : State} {a0 : Array Value} (hw : HW a0 Z) (ch : Int32) (h0 : Heap) (n0 : Nat) (sf0 : List Addr) (hc0 : 0 ≤ ch.toInt) (hc1 : ch.toInt ≤ 127) :
    MetW Z consts_1 sf0 (⟨"java/lang/StringLatin1", "canEncode", "(I)Z"⟩ : MethodName) jdk_43_method_4_code 1 (some .boolean) [] ({ frames := 0, cells := 0, slots := 0, locals := 0 } : Room) #[(.int ch)] h0 n0 (fun v h sf => v = some (.int 1) ∧ h = h0) := by
  refine k_body (hEW hw) (f := (fun m => mkF m 0 #[.val (.int ch)] [])) pn_21 (fun m => by first | (simp [entryFrame, mkF, argsToLocals, Value.category, maxLocals]; done) | rfl) ?_
  intro Γ T G X
  have e255 : (255 : Int32).toInt = 255 := rfl
  show Go Γ n0 _ T (mkF Γ.m 0 #[.val (.int ch)] [])
  refine k_iloadN G X d21_0 (pc' := 1) rfl rfl ?_
  refine k_if_lt G X d21_1 (pc' := 15) rfl (by decide) (pc'' := 4) rfl (fun c1 => (absurd c1 (by omega))) (fun c1 => ?_)
  refine k_iloadN G X d21_4 (pc' := 5) rfl rfl ?_
  refine k_sipush G X d21_5 (pc' := 8) rfl (z := (255 : Int32)) (by decide) ?_
  refine k_icmp_gt G X d21_8 (pc' := 15) rfl (by decide) (pc'' := 11) rfl (fun c8 => (absurd c8 (by omega))) (fun c8 => ?_)
  refine k_iconst G X d21_11 (pc' := 12) rfl (z := (1 : Int32)) (by decide) ?_
  refine k_goto G X d21_12 (by decide) (pc' := 16) rfl ?_
  refine k_retb G X d21_16 (t := .boolean) rfl (by simp) rfl ?_ (by decide) (by decide)
  exact ⟨rfl, rfl⟩
theorem pn_22 : plainFor (⟨"java/lang/Math", "max", "(II)I"⟩ : MethodName) = true := Jvm.Free.JP.mathPlain rfl (by decide +kernel)
set_option maxRecDepth 65536 in
set_option maxHeartbeats 40000000 in
theorem m_max {Z : State} {a0 : Array Value} (hw : HW a0 Z) (a b : Int32) (h0 : Heap) (n0 : Nat) (sf0 : List Addr) :
    MetW Z consts_1 sf0 (⟨"java/lang/Math", "max", "(II)I"⟩ : MethodName) jdk_29_method_65_code 2 (some .int) [] ({ frames := 0, cells := 0, slots := 0, locals := 0 } : Room) #[(.int a), (.int b)] h0 n0 (fun v h sf => ∃ r : Int32, v = some (.int r) ∧ (b.toInt ≤ a.toInt → r.toInt = a.toInt) ∧ (a.toInt < b.toInt → r.toInt = b.toInt) ∧ h = h0) := by
  refine k_body (hEW hw) (f := (fun m => mkF m 0 #[.val (.int a), .val (.int b)] [])) pn_22 (fun m => by first | (simp [entryFrame, mkF, argsToLocals, Value.category, maxLocals]; done) | rfl) ?_
  intro Γ T G X
  show Go Γ n0 _ T (mkF Γ.m 0 #[.val (.int a), .val (.int b)] [])
  refine k_iloadN G X d22_0 (pc' := 1) rfl rfl ?_
  refine k_iloadN G X d22_1 (pc' := 2) rfl rfl ?_
  refine k_icmp_lt G X d22_2 (pc' := 9) rfl (by decide) (pc'' := 5) rfl (fun c2 => ?_) (fun c2 => ?_)
  · refine k_iloadN G X d22_9 (pc' := 10) rfl rfl ?_
    refine k_reti G X d22_10 rfl ?_ (by decide) (by decide)
    exact ⟨_, rfl, by intros; first | rfl | omega, by intros; first | rfl | omega, rfl⟩
  · refine k_iloadN G X d22_5 (pc' := 6) rfl rfl ?_
    refine k_goto G X d22_6 (by decide) (pc' := 10) rfl ?_
    refine k_reti G X d22_10 rfl ?_ (by decide) (by decide)
    exact ⟨_, rfl, by intros; first | rfl | omega, by intros; first | rfl | omega, rfl⟩
theorem pn_23 : plainFor (⟨"java/lang/Math", "min", "(II)I"⟩ : MethodName) = true := Jvm.Free.JP.mathPlain rfl (by decide +kernel)
set_option maxRecDepth 65536 in
set_option maxHeartbeats 40000000 in
theorem m_min {Z : State} {a0 : Array Value} (hw : HW a0 Z) (a b : Int32) (h0 : Heap) (n0 : Nat) (sf0 : List Addr) :
    MetW Z consts_1 sf0 (⟨"java/lang/Math", "min", "(II)I"⟩ : MethodName) jdk_29_method_69_code 2 (some .int) [] ({ frames := 0, cells := 0, slots := 0, locals := 0 } : Room) #[(.int a), (.int b)] h0 n0 (fun v h sf => ∃ r : Int32, v = some (.int r) ∧ (b.toInt ≤ a.toInt → r.toInt = b.toInt) ∧ (a.toInt < b.toInt → r.toInt = a.toInt) ∧ h = h0) := by
  refine k_body (hEW hw) (f := (fun m => mkF m 0 #[.val (.int a), .val (.int b)] [])) pn_23 (fun m => by first | (simp [entryFrame, mkF, argsToLocals, Value.category, maxLocals]; done) | rfl) ?_
  intro Γ T G X
  show Go Γ n0 _ T (mkF Γ.m 0 #[.val (.int a), .val (.int b)] [])
  refine k_iloadN G X d23_0 (pc' := 1) rfl rfl ?_
  refine k_iloadN G X d23_1 (pc' := 2) rfl rfl ?_
  refine k_icmp_gt G X d23_2 (pc' := 9) rfl (by decide) (pc'' := 5) rfl (fun c2 => ?_) (fun c2 => ?_)
  · refine k_iloadN G X d23_9 (pc' := 10) rfl rfl ?_
    refine k_reti G X d23_10 rfl ?_ (by decide) (by decide)
    exact ⟨_, rfl, by intros; first | rfl | omega, by intros; first | rfl | omega, rfl⟩
  · refine k_iloadN G X d23_5 (pc' := 6) rfl rfl ?_
    refine k_goto G X d23_6 (by decide) (pc' := 10) rfl ?_
    refine k_reti G X d23_10 rfl ?_ (by decide) (by decide)
    exact ⟨_, rfl, by intros; first | rfl | omega, by intros; first | rfl | omega, rfl⟩
theorem pn_20 : plainFor (⟨"java/lang/StringLatin1", "indexOf", "([BIII)I"⟩ : MethodName) = true := plainFor_of_name (by first | (simp [plainName, overriddenIn]; done) | decide +kernel)
set_option maxRecDepth 65536 in
set_option maxHeartbeats 40000000 in
theorem str_lix {Z : State} {a0 : Array Value} (hw : HW a0 Z) (b : Addr) (k : ClassId) (n o : Nat) (z zo ch : Int32) (f : Nat → Int32) (h0 : Heap) (n0 : Nat) (sf0 : List Addr) (SA : Arf Z h0 b k .byte n (fun i => .int (f i))) (hz : z.toInt = n) (ho : zo.toInt = o) (hon : o < n) (hc0 : 0 ≤ ch.toInt) (hc1 : ch.toInt ≤ 127) :
    MetW Z consts_1 sf0 (⟨"java/lang/StringLatin1", "indexOf", "([BIII)I"⟩ : MethodName) jdk_43_method_22_code 4 (some .int) [] ({ frames := 1, cells := 0, slots := 0, locals := 17 } : Room) #[(.ref b), (.int ch), (.int zo), (.int z)] h0 n0 (fun v h sf => ∃ r : Int32, v = some (.int r) ∧ h = h0 ∧ ((∃ j : Nat, r.toInt = j ∧ o ≤ j ∧ j < n ∧ f j = ch ∧ ∀ i, o ≤ i → i < j → f i ≠ ch) ∨ (r.toInt = -1 ∧ ∀ i, o ≤ i → i < n → f i ≠ ch))) := by
  refine k_body (hEW hw) (f := (fun m => mkF m 0 #[.val (.ref b), .val (.int ch), .val (.int zo), .val (.int z)] [])) pn_20 (fun m => by first | (simp [entryFrame, mkF, argsToLocals, Value.category, maxLocals]; done) | rfl) ?_
  intro Γ T G X
  show Go Γ n0 _ T (mkF Γ.m 0 #[.val (.ref b), .val (.int ch), .val (.int zo), .val (.int z)] [])
  refine k_iloadN G X d20_0 (pc' := 1) rfl rfl ?_
  refine k_callS G X (argsL := [(.int ch)]) (rest := []) rfl (w101 hw) (w102 hw) (w53 hw) (w103 hw) (by decide) (str_can hw ch h0 n0 _ hc0 hc1) d20_1 pd5 rfl (pc' := 4) rfl rfl (wd := 0) rfl (by decide) (by decide) (by decide) (by decide) (fun T h1 v sf1 X q => ?_)
  replace X := W.drop X
  obtain ⟨rfl, e1⟩ := q
  replace X := X.eq e1
  show Go Γ n0 _ T (mkF Γ.m 4 #[.val (.ref b), .val (.int ch), .val (.int zo), .val (.int z)] [(.int (1 : Int32))])
  refine k_if_ne G X d20_4 (pc' := 9) rfl (by decide) (pc'' := 7) rfl (fun c4 => ?_) (fun c4 => (absurd c4 (by decide)))
  refine k_iloadN G X d20_9 (pc' := 10) rfl rfl ?_
  refine k_iconst G X d20_10 (pc' := 11) rfl (z := (0 : Int32)) (by decide) ?_
  refine k_callS G X (argsL := [(.int zo), (.int (0 : Int32))]) (rest := []) rfl (w104 hw) (w105 hw) (w106 hw) (w107 hw) (by decide) (m_max hw zo (0 : Int32) h0 n0 _) d20_11 pd6 rfl (pc' := 14) rfl rfl (wd := 0) rfl (by decide) (by decide) (by decide) (by decide) (fun T h11 v sf11 X q => ?_)
  replace X := W.drop X
  obtain ⟨r11, rfl, q1_11, q2_11, e11⟩ := q
  replace X := X.eq e11
  obtain rfl : zo = r11 := of_toInt (by have := z32; omega)
  show Go Γ n0 _ T (mkF Γ.m 14 #[.val (.ref b), .val (.int ch), .val (.int zo), .val (.int z)] [(.int zo)])
  refine k_istoreN G X d20_14 (pc' := 15) rfl (l' := #[.val (.ref b), .val (.int ch), .val (.int zo), .val (.int z)]) rfl ?_
  refine k_iloadN G X d20_15 (pc' := 16) rfl rfl ?_
  refine k_aloadN G X d20_16 (pc' := 17) rfl rfl rfl ?_
  refine k_alen G X (z := z) SA hz d20_17 (pc' := 18) rfl ?_
  refine k_callS G X (argsL := [(.int z), (.int z)]) (rest := []) rfl (w108 hw) (w109 hw) (w106 hw) (w110 hw) (by decide) (m_min hw z z h0 n0 _) d20_18 pd6 rfl (pc' := 21) rfl rfl (wd := 0) rfl (by decide) (by decide) (by decide) (by decide) (fun T h18 v sf18 X q => ?_)
  replace X := W.drop X
  obtain ⟨r18, rfl, q1_18, q2_18, e18⟩ := q
  replace X := X.eq e18
  obtain rfl : z = r18 := of_toInt (by have := z32; omega)
  show Go Γ n0 _ T (mkF Γ.m 21 #[.val (.ref b), .val (.int ch), .val (.int zo), .val (.int z)] [(.int z)])
  refine k_istoreN G X d20_21 (pc' := 22) rfl (l' := #[.val (.ref b), .val (.int ch), .val (.int zo), .val (.int z)]) rfl ?_
  refine k_iloadN G X d20_22 (pc' := 23) rfl rfl ?_
  refine k_iloadN G X d20_23 (pc' := 24) rfl rfl ?_
  refine k_icmp_lt G X d20_24 (pc' := 29) rfl (by decide) (pc'' := 27) rfl (fun c24 => ?_) (fun c24 => (absurd c24 (by omega)))
  refine k_aloadN G X d20_29 (pc' := 30) rfl rfl rfl ?_
  refine k_iloadN G X d20_30 (pc' := 31) rfl rfl ?_
  refine k_iloadN G X d20_31 (pc' := 32) rfl rfl ?_
  refine k_iloadN G X d20_32 (pc' := 33) rfl rfl ?_
  refine k_callS G X (argsL := [(.ref b), (.int ch), (.int zo), (.int z)]) (rest := []) rfl (w111 hw) (w112 hw) (w53 hw) (w113 hw) (by decide) (str_ixc hw b k n o z zo ch f h0 n0 _ SA hz ho hon hc0 hc1) d20_33 pd7 rfl (pc' := 36) rfl rfl (wd := 0) rfl (by decide) (by decide) (by decide) (by decide) (fun T h33 v sf33 X q => ?_)
  replace X := W.drop X
  obtain ⟨r, rfl, e33, hr⟩ := q
  replace X := X.eq e33
  show Go Γ n0 _ T (mkF Γ.m 36 #[.val (.ref b), .val (.int ch), .val (.int zo), .val (.int z)] [(.int r)])
  refine k_reti G X d20_36 rfl ?_ (by decide) (by decide)
  exact ⟨_, rfl, rfl, hr⟩
theorem pn_18 : plainFor (⟨"java/lang/String", "indexOf", "(II)I"⟩ : MethodName) = true := plainFor_of_name (by first | (simp [plainName, overriddenIn]; done) | decide +kernel)
set_option maxRecDepth 65536 in
set_option maxHeartbeats 40000000 in
theorem str_ix {Z : State} {a0 : Array Value} (hw : HW a0 Z) (s b : Addr) (k : ClassId) (n o : Nat) (z zo ch cs : Int32) (f : Nat → Int32) (h0 : Heap) (n0 : Nat) (sf0 : List Addr) (SS : Str Z h0 s b k n f) (hz : z.toInt = n) (S_CS : Sta Z h0 "java/lang/String" "COMPACT_STRINGS" "Z" (.int cs)) (hcs : cs ≠ 0) (ho : zo.toInt = o) (hon : o < n) (hc0 : 0 ≤ ch.toInt) (hc1 : ch.toInt ≤ 127) :
    MetW Z consts_1 sf0 (⟨"java/lang/String", "indexOf", "(II)I"⟩ : MethodName) jdk_42_method_80_code 3 (some .int) [] ({ frames := 2, cells := 0, slots := 0, locals := 32 } : Room) #[(.ref s), (.int ch), (.int zo)] h0 n0 (fun v h sf => ∃ r : Int32, v = some (.int r) ∧ h = h0 ∧ ((∃ j : Nat, r.toInt = j ∧ o ≤ j ∧ j < n ∧ f j = ch ∧ ∀ i, o ≤ i → i < j → f i ≠ ch) ∨ (r.toInt = -1 ∧ ∀ i, o ≤ i → i < n → f i ≠ ch))) := by
  refine k_body (hEW hw) (f := (fun m => mkF m 0 #[.val (.ref s), .val (.int ch), .val (.int zo)] [])) pn_18 (fun m => by first | (simp [entryFrame, mkF, argsToLocals, Value.category, maxLocals]; done) | rfl) ?_
  intro Γ T G X
  obtain ⟨SE, SC, SV, SA⟩ := id SS
  show Go Γ n0 _ T (mkF Γ.m 0 #[.val (.ref s), .val (.int ch), .val (.int zo)] [])
  refine k_aloadN G X d18_0 (pc' := 1) rfl rfl rfl ?_
  refine k_callV G X (argsL := []) (rest := []) rfl SE (w92 hw) (w93 hw) (nf_sel (w95 hw)) (w95 hw) (w94 hw) (w10 hw) (w96 hw) (by decide) (str_lat hw s b k n z cs f h0 n0 _ SS hz S_CS hcs) d18_1 pd3 rfl (pc' := 4) rfl rfl (wd := 0) rfl (by decide) (by decide) (by decide) (by decide) (fun T h1 v sf1 X q => ?_)
  replace X := W.drop X
  obtain ⟨rfl, e1⟩ := q
  replace X := X.eq e1
  show Go Γ n0 _ T (mkF Γ.m 4 #[.val (.ref s), .val (.int ch), .val (.int zo)] [(.int (1 : Int32))])
  refine k_if_eq G X d18_4 (pc' := 23) rfl (by decide) (pc'' := 7) rfl (fun c4 => (absurd c4 (by decide))) (fun c4 => ?_)
  refine k_aloadN G X d18_7 (pc' := 8) rfl rfl rfl ?_
  refine k_getF G X (host := "") (Or.inl (w40 hw)) Via.refl SV d18_8 (pc' := 11) rfl (fun T X => ?_)
  refine k_iloadN G X d18_11 (pc' := 12) rfl rfl ?_
  refine k_iloadN G X d18_12 (pc' := 13) rfl rfl ?_
  refine k_aloadN G X d18_13 (pc' := 14) rfl rfl rfl ?_
  refine k_callV G X (argsL := []) (rest := [(.int zo), (.int ch), (.ref b)]) rfl SE (w97 hw) (w36 hw) (nf_sel (w38 hw)) (w38 hw) (w37 hw) (w10 hw) (w39 hw) (by decide) (str_len hw s b k n z cs f h0 n0 _ SS hz S_CS hcs) d18_14 pd8 rfl (pc' := 17) rfl rfl (wd := 3) rfl (by decide) (by decide) (by decide) (by decide) (fun T h14 v sf14 X q => ?_)
  replace X := W.drop X
  obtain ⟨rfl, e14⟩ := q
  replace X := X.eq e14
  show Go Γ n0 _ T (mkF Γ.m 17 #[.val (.ref s), .val (.int ch), .val (.int zo)] [(.int z), (.int zo), (.int ch), (.ref b)])
  refine k_callS G X (argsL := [(.ref b), (.int ch), (.int zo), (.int z)]) (rest := []) rfl (w98 hw) (w99 hw) (w53 hw) (w100 hw) (by decide) (str_lix hw b k n o z zo ch f h0 n0 _ SS.2.2.2 hz ho hon hc0 hc1) d18_17 pd7 rfl (pc' := 20) rfl rfl (wd := 0) rfl (by decide) (by decide) (by decide) (by decide) (fun T h17 v sf17 X q => ?_)
  replace X := W.drop X
  obtain ⟨r, rfl, e17, hr⟩ := q
  replace X := X.eq e17
  show Go Γ n0 _ T (mkF Γ.m 20 #[.val (.ref s), .val (.int ch), .val (.int zo)] [(.int r)])
  refine k_goto G X d18_20 (by decide) (pc' := 36) rfl ?_
  refine k_reti G X d18_36 rfl ?_ (by decide) (by decide)
  exact ⟨_, rfl, rfl, hr⟩
theorem pn_15 : plainFor (⟨"java/lang/StringUTF16", "compress", "([CI[BII)I"⟩ : MethodName) = true := plainFor_of_name (by first | (simp [plainName, overriddenIn]; done) | decide +kernel)
set_option maxRecDepth 65536 in
set_option maxHeartbeats 40000000 in
theorem str_cmp1 {Z : State} {a0 : Array Value} (hw : HW a0 Z) (a b : Addr) (ka kb : ClassId) (n : Nat) (z : Int32) (c : Nat → Int32) (g : Nat → Value) (h0 : Heap) (n0 : Nat) (sf0 : List Addr) (hz : z.toInt = n) (A : Arf Z h0 a ka .char n (fun i => .int (c i))) (B : Arf Z h0 b kb .byte n g) (ne_a_b : a ≠ b) (gm_b : n0 ≤ b ∧ b ∈ sf0) (hc : ∀ i, i < n → 0 ≤ (c i).toInt ∧ (c i).toInt ≤ 255) :
    MetW Z consts_1 sf0 (⟨"java/lang/StringUTF16", "compress", "([CI[BII)I"⟩ : MethodName) jdk_52_method_21_code 7 (some .int) [] ({ frames := 0, cells := 0, slots := 0, locals := 0 } : Room) #[(.ref a), (.int (0 : Int32)), (.ref b), (.int (0 : Int32)), (.int z)] h0 n0 (fun v h sf => v = some (.int z) ∧ Keep h0 h [b] ∧ Arf Z h b kb .byte n (fun i => .int (c i).toInt8.toInt32)) := by
  refine k_body (hEW hw) (f := (fun m => mkF m 0 #[.val (.ref a), .val (.int (0 : Int32)), .val (.ref b), .val (.int (0 : Int32)), .val (.int z), .unset, .unset] [])) pn_15 (fun m => by first | (simp [entryFrame, mkF, argsToLocals, Value.category, maxLocals]; done) | rfl) ?_
  intro Γ T G X
  have ge_b := gm_b.1
  show Go Γ n0 _ T (mkF Γ.m 0 #[.val (.ref a), .val (.int (0 : Int32)), .val (.ref b), .val (.int (0 : Int32)), .val (.int z), .unset, .unset] [])
  refine k_iconst G X d15_0 (pc' := 1) rfl (z := (0 : Int32)) (by decide) ?_
  refine k_istore G X d15_1 (pc' := 3) rfl (l' := #[.val (.ref a), .val (.int (0 : Int32)), .val (.ref b), .val (.int (0 : Int32)), .val (.int z), .val (.int (0 : Int32)), .unset]) rfl ?_
  have LOOP : ∀ (k : Nat) (T : State) (h1 : Heap) (i : Int32) (s6 : Slot), ((s6 = .unset ∨ ∃ w, s6 = .val w ∧ w.category = 1)) → (Arf Z h1 a ka .char n (fun i => .int (c i))) → (Arf Z h1 b kb .byte n (fun x => if x < i.toInt.toNat then .int (c x).toInt8.toInt32 else g x)) → (Keep h0 h1 [b]) → (0 ≤ i.toInt) → (i.toInt ≤ n) → n - i.toInt.toNat = k → W Γ n0 T h1 0 0 (sf0) → Go Γ n0 (fun v h sf => v = some (.int z) ∧ Keep h0 h [b] ∧ Arf Z h b kb .byte n (fun i => .int (c i).toInt8.toInt32)) T (mkF Γ.m 3 #[.val (.ref a), .val (.int i), .val (.ref b), .val (.int i), .val (.int z), .val (.int i), s6] []) := by
    intro k
    induction k using Nat.strongRecOn with
    | _ k ih =>
      intro T h1 i s6 h_s6 A B KP hi0 hin hk X
      refine k_iload G X d15_3 (pc' := 5) rfl rfl ?_
      refine k_iload G X d15_5 (pc' := 7) rfl rfl ?_
      refine k_icmp_ge G X d15_7 (pc' := 44) rfl (by decide) (pc'' := 10) rfl (fun c7 => ?_) (fun c7 => ?_)
      · refine k_iload G X d15_44 (pc' := 46) rfl rfl ?_
        refine k_reti G X d15_46 rfl ?_ (by decide) (by decide)
        refine ⟨rfl, KP, B.congr fun x hx => ?_⟩
        rw [if_pos (by omega)]
      · have hlt : i.toInt < n := by omega
        have hi1 : (i + (1 : Int32)).toInt = i.toInt + 1 := iadd_toInt (by rw [show (1 : Int32).toInt = 1 from rfl]; omega) (by rw [show (1 : Int32).toInt = 1 from rfl]; have := A.size_lt; omega)
        have hci := hc i.toInt.toNat (by omega)
        refine k_aloadN G X d15_10 (pc' := 11) rfl rfl rfl ?_
        refine k_iloadN G X d15_11 (pc' := 12) rfl rfl ?_
        refine k_caload G X (i := i.toInt.toNat) (v := (.int (c i.toInt.toNat))) A (by omega) (by omega) rfl d15_12 (pc' := 13) rfl ?_
        refine k_istoreS G X d15_13 (pc' := 15) rfl rfl h_s6 (l' := #[.val (.ref a), .val (.int i), .val (.ref b), .val (.int i), .val (.int z), .val (.int i), .val (.int (c i.toInt.toNat))]) rfl ?_
        refine k_iload G X d15_15 (pc' := 17) rfl rfl ?_
        refine k_sipush G X d15_17 (pc' := 20) rfl (z := (255 : Int32)) (by decide) ?_
        refine k_icmp_le G X d15_20 (pc' := 26) rfl (by decide) (pc'' := 23) rfl (fun c20 => ?_) (fun c20 => (absurd c20 (by rw [show (255 : Int32).toInt = 255 from rfl]; omega)))
        refine k_aloadN G X d15_26 (pc' := 27) rfl rfl rfl ?_
        refine k_iloadN G X d15_27 (pc' := 28) rfl rfl ?_
        refine k_iload G X d15_28 (pc' := 30) rfl rfl ?_
        refine k_i2b G X d15_30 (pc' := 31) rfl rfl ?_
        refine k_bastore G X (i := i.toInt.toNat) (z := (c i.toInt.toNat).toInt8.toInt32) B (by omega) (by omega) (by simp [nar]) ge_b (List.mem_append_right [] gm_b.2) d15_31 (pc' := 32) rfl (fun T h31 W31 B X => ?_)
        replace A := A.other W31 ne_a_b
        replace KP := KP.wr W31 (Or.inl (List.mem_of_getElem? (i := 0) rfl))
        refine k_iinc G X d15_32 (pc' := 35) rfl rfl (z := (i + (1 : Int32))) rfl (l' := #[.val (.ref a), .val (.int (i + (1 : Int32))), .val (.ref b), .val (.int i), .val (.int z), .val (.int i), .val (.int (c i.toInt.toNat))]) rfl ?_
        refine k_iinc G X d15_35 (pc' := 38) rfl rfl (z := (i + (1 : Int32))) rfl (l' := #[.val (.ref a), .val (.int (i + (1 : Int32))), .val (.ref b), .val (.int (i + (1 : Int32))), .val (.int z), .val (.int i), .val (.int (c i.toInt.toNat))]) rfl ?_
        refine k_iinc G X d15_38 (pc' := 41) rfl rfl (z := (i + (1 : Int32))) rfl (l' := #[.val (.ref a), .val (.int (i + (1 : Int32))), .val (.ref b), .val (.int (i + (1 : Int32))), .val (.int z), .val (.int (i + (1 : Int32))), .val (.int (c i.toInt.toNat))]) rfl ?_
        refine k_goto G X d15_41 (by decide) (pc' := 3) rfl ?_
        exact ih _ (by rw [hi1]; omega) T h31 (i + (1 : Int32)) (.val (.int (c i.toInt.toNat))) (Or.inr ⟨_, rfl, rfl⟩) A (B.congr fun x hx => by rw [hi1]; exact step_set (f := fun x => Value.int (c x).toInt8.toInt32) (g := g) x i.toInt hi0) KP (by omega) (by omega) rfl X
  exact LOOP _ T h0 (0 : Int32) (.unset) (Or.inl rfl) A (B.congr fun i _ => by simp [show (0 : Int32).toInt = 0 from rfl]) (Keep.refl h0 [b]) (by decide) (by rw [z32]; omega) rfl X
theorem pn_14 : plainFor (⟨"java/lang/StringUTF16", "compress", "([CII)[B"⟩ : MethodName) = true := plainFor_of_name (by first | (simp [plainName, overriddenIn]; done) | decide +kernel)
set_option maxRecDepth 65536 in
set_option maxHeartbeats 40000000 in
theorem str_cmp2 {Z : State} {a0 : Array Value} (hw : HW a0 Z) (a : Addr) (ka : ClassId) (n : Nat) (z : Int32) (c : Nat → Int32) (h0 : Heap) (n0 : Nat) (sf0 : List Addr) (hz : z.toInt = n) (hn : n ≤ 5) (A : Arf Z h0 a ka .char n (fun i => .int (c i))) (O : Old Z n0 h0) (hc : ∀ i, i < n → 0 ≤ (c i).toInt ∧ (c i).toInt ≤ 255) :
    MetW Z consts_1 sf0 (⟨"java/lang/StringUTF16", "compress", "([CII)[B"⟩ : MethodName) jdk_52_method_16_code 6 (some (.array .byte)) [] ({ frames := 1, cells := 1, slots := 5, locals := 18 } : Room) #[(.ref a), (.int (0 : Int32)), (.int z)] h0 n0 (fun v h sf => ∃ b kb, v = some (.ref b) ∧ h0.size ≤ b ∧ Keep h0 h [] ∧ Arf Z h b kb .byte n (fun i => .int (c i).toInt8.toInt32)) := by
  refine k_body (hEW hw) (f := (fun m => mkF m 0 #[.val (.ref a), .val (.int (0 : Int32)), .val (.int z), .unset, .unset, .unset] [])) pn_14 (fun m => by first | (simp [entryFrame, mkF, argsToLocals, Value.category, maxLocals]; done) | rfl) ?_
  intro Γ T G X
  have KP := Keep.refl h0 []
  show Go Γ n0 _ T (mkF Γ.m 0 #[.val (.ref a), .val (.int (0 : Int32)), .val (.int z), .unset, .unset, .unset] [])
  refine k_iloadN G X d14_0 (pc' := 1) rfl rfl ?_
  refine k_newP G X (aty := .byte) (n := n) (cap := 5) (w12 hw) d14_1 (pc' := 3) rfl hz hn (by decide) (by decide) (by decide) (fun T h1 b1 k1 s_b1 E1 A_b1 X => ?_)
  have ne_a_b1 : a ≠ b1 := Nat.ne_of_lt (Nat.lt_of_lt_of_eq A.lt s_b1)
  have ge_b1 : n0 ≤ b1 := Nat.le_trans (Jvm.OwnK.Old_le O) (Nat.le_of_eq s_b1)
  have sz_b1 : h0.size ≤ b1 := Nat.le_trans KP.1 (Nat.le_of_eq s_b1)
  replace A := A.ext E1
  replace O := O.ext E1
  replace KP := KP.ext E1
  replace A_b1 : Arf Z h1 b1 k1 .byte n (fun _ => (.int (0 : Int32))) := A_b1
  refine k_astoreN G X d14_3 (pc' := 4) rfl rfl (l' := #[.val (.ref a), .val (.int (0 : Int32)), .val (.int z), .val (.ref b1), .unset, .unset]) rfl ?_
  refine k_aloadN G X d14_4 (pc' := 5) rfl rfl rfl ?_
  refine k_iloadN G X d14_5 (pc' := 6) rfl rfl ?_
  refine k_aloadN G X d14_6 (pc' := 7) rfl rfl rfl ?_
  refine k_iconst G X d14_7 (pc' := 8) rfl (z := (0 : Int32)) (by decide) ?_
  refine k_iloadN G X d14_8 (pc' := 9) rfl rfl ?_
  refine k_callS G X (argsL := [(.ref a), (.int (0 : Int32)), (.ref b1), (.int (0 : Int32)), (.int z)]) (rest := []) rfl (w75 hw) (w76 hw) (w73 hw) (w77 hw) (by decide) (str_cmp1 hw a b1 ka k1 n z c _ h1 n0 _ hz A A_b1 ne_a_b1 ⟨ge_b1, (List.mem_of_getElem? (i := 0) rfl)⟩ hc) d14_9 pd9 rfl (pc' := 12) rfl rfl (wd := 0) rfl (by decide) (by decide) (by decide) (by decide) (fun T h9 v sf9 X q => ?_)
  replace X := W.drop X
  obtain ⟨rfl, K9, A_b1⟩ := q
  replace A := A.keep K9 (by simp only [List.mem_cons, List.not_mem_nil, or_false, not_or]; exact ne_a_b1)
  replace O := O.keep K9 (allS ge_b1 (all0))
  replace KP := KP.trans K9 (allS (Or.inr sz_b1) (all0))
  show Go Γ n0 _ T (mkF Γ.m 12 #[.val (.ref a), .val (.int (0 : Int32)), .val (.int z), .val (.ref b1), .unset, .unset] [(.int z)])
  refine k_istore G X d14_12 (pc' := 14) rfl (l' := #[.val (.ref a), .val (.int (0 : Int32)), .val (.int z), .val (.ref b1), .val (.int z), .unset]) rfl ?_
  refine k_iload G X d14_14 (pc' := 16) rfl rfl ?_
  refine k_iloadN G X d14_16 (pc' := 17) rfl rfl ?_
  refine k_icmp_eq G X d14_17 (pc' := 57) rfl (by decide) (pc'' := 20) rfl (fun c17 => ?_) (fun c17 => (absurd c17 (by simp)))
  refine k_aloadN G X d14_57 (pc' := 58) rfl rfl rfl ?_
  refine k_reta G X d14_58 (t := (.array .byte)) rfl rfl rfl ?_ (by decide) (by decide)
  exact ⟨b1, k1, rfl, sz_b1, KP, A_b1⟩
theorem pn_16 : plainFor (⟨"java/lang/StringUTF16", "coderFromArrayLen", "([BI)B"⟩ : MethodName) = true := plainFor_of_name (by first | (simp [plainName, overriddenIn]; done) | decide +kernel)
set_option maxRecDepth 65536 in
set_option maxHeartbeats 40000000 in
theorem str_cod {Z : State} {a0 : Array Value} (hw : HW a0 Z) (b : Addr) (kb : ClassId) (n : Nat) (z : Int32) (f : Nat → Value) (h0 : Heap) (n0 : Nat) (sf0 : List Addr) (hz : z.toInt = n) (B : Arf Z h0 b kb .byte n f) :
    MetW Z consts_1 sf0 (⟨"java/lang/StringUTF16", "coderFromArrayLen", "([BI)B"⟩ : MethodName) jdk_52_method_15_code 2 (some .byte) [] ({ frames := 0, cells := 0, slots := 0, locals := 0 } : Room) #[(.ref b), (.int z)] h0 n0 (fun v h sf => v = some (.int 0) ∧ h = h0) := by
  refine k_body (hEW hw) (f := (fun m => mkF m 0 #[.val (.ref b), .val (.int z)] [])) pn_16 (fun m => by first | (simp [entryFrame, mkF, argsToLocals, Value.category, maxLocals]; done) | rfl) ?_
  intro Γ T G X
  show Go Γ n0 _ T (mkF Γ.m 0 #[.val (.ref b), .val (.int z)] [])
  refine k_iloadN G X d16_0 (pc' := 1) rfl rfl ?_
  refine k_aloadN G X d16_1 (pc' := 2) rfl rfl rfl ?_
  refine k_alen G X (z := z) B hz d16_2 (pc' := 3) rfl ?_
  refine k_isub G X d16_3 (pc' := 4) rfl rfl ?_
  rw [show z - z = (0 : Int32) from Int32.sub_self z]
  refine k_bipush G X d16_4 (pc' := 6) rfl (z := (31 : Int32)) (by decide) ?_
  refine k_iushr G X d16_6 (pc' := 7) rfl (z := (0 : Int32)) (by decide) ?_
  refine k_i2b G X d16_7 (pc' := 8) rfl (z := (0 : Int32)) (by decide) ?_
  refine k_retb G X d16_8 (t := .byte) rfl (by simp) rfl ?_ (by decide) (by decide)
  exact ⟨rfl, rfl⟩
theorem pn_13 : plainFor (⟨"java/lang/String", "<init>", "([CIILjava/lang/Void;)V"⟩ : MethodName) = true := plainFor_of_name (by first | (simp [plainName, overriddenIn]; done) | decide +kernel)
set_option maxRecDepth 65536 in
set_option maxHeartbeats 40000000 in
theorem str_init4 {Z : State} {a0 : Array Value} (hw : HW a0 Z) (s a : Addr) (ka : ClassId) (n : Nat) (z cs : Int32) (c : Nat → Int32) (h0 : Heap) (n0 : Nat) (sf0 : List Addr) (hz : z.toInt = n) (hn : n ≤ 5) (hn1 : 1 ≤ n) (E : Exa Z h0 s "java/lang/String") (FV : Fld Z h0 s "java/lang/String" "value" "[B" .null) (FC : Fld Z h0 s "java/lang/String" "coder" "B" (.int 0)) (A : Arf Z h0 a ka .char n (fun i => .int (c i))) (ne_s_a : s ≠ a) (gm_s : n0 ≤ s ∧ s ∈ sf0) (O : Old Z n0 h0) (S_CS : Sta Z h0 "java/lang/String" "COMPACT_STRINGS" "Z" (.int cs)) (hcs : cs ≠ 0) (hc : ∀ i, i < n → 0 ≤ (c i).toInt ∧ (c i).toInt ≤ 255) :
    MetW Z consts_1 sf0 (⟨"java/lang/String", "<init>", "([CIILjava/lang/Void;)V"⟩ : MethodName) jdk_42_method_149_code 6 none [] ({ frames := 2, cells := 1, slots := 5, locals := 37 } : Room) #[(.ref s), (.ref a), (.int (0 : Int32)), (.int z), .null] h0 n0 (fun v h sf => v = none ∧ Keep h0 h [s] ∧ ∃ b kb, h0.size ≤ b ∧ Str Z h s b kb n (fun i => (c i).toInt8.toInt32)) := by
  refine k_body (hEW hw) (f := (fun m => mkF m 0 #[.val (.ref s), .val (.ref a), .val (.int (0 : Int32)), .val (.int z), .val .null, .unset] [])) pn_13 (fun m => by first | (simp [entryFrame, mkF, argsToLocals, Value.category, maxLocals]; done) | rfl) ?_
  intro Γ T G X
  have ge_s := gm_s.1
  have KP := Keep.refl h0 [s]
  have E0 := E; have A0 := A
  show Go Γ n0 _ T (mkF Γ.m 0 #[.val (.ref s), .val (.ref a), .val (.int (0 : Int32)), .val (.int z), .val .null, .unset] [])
  refine k_aloadN G X d13_0 (pc' := 1) rfl rfl rfl ?_
  refine k_initO G X (w63 hw) (w24 hw) (w25 hw) d13_1 (pc' := 4) rfl rfl (by decide) (wd := 0) rfl (by decide) (fun T X => ?_)
  refine k_iloadN G X d13_4 (pc' := 5) rfl rfl ?_
  refine k_if_ne G X d13_5 (pc' := 27) rfl (by decide) (pc'' := 8) rfl (fun c5 => ?_) (fun c5 => (absurd c5 (by intro q; rw [q, z32] at hz; omega)))
  refine k_getS G X (host := "") (Or.inl (w46 hw)) Via.refl S_CS d13_27 (pc' := 30) rfl (fun T X => ?_)
  refine k_if_eq G X d13_30 (pc' := 58) rfl (by decide) (pc'' := 33) rfl (fun c30 => (absurd c30 hcs)) (fun c30 => ?_)
  refine k_aloadN G X d13_33 (pc' := 34) rfl rfl rfl ?_
  refine k_iloadN G X d13_34 (pc' := 35) rfl rfl ?_
  refine k_iloadN G X d13_35 (pc' := 36) rfl rfl ?_
  refine k_callS G X (argsL := [(.ref a), (.int (0 : Int32)), (.int z)]) (rest := []) rfl (w71 hw) (w72 hw) (w73 hw) (w74 hw) (by decide) (str_cmp2 hw a ka n z c h0 n0 _ hz hn A O hc) d13_36 pd10 rfl (pc' := 39) rfl rfl (wd := 0) rfl (by decide) (by decide) (by decide) (by decide) (fun T h36 v sf36 X q => ?_)
  replace X := W.drop X
  obtain ⟨b, kb, rfl, sz_b, K36, B⟩ := q
  replace S_CS := Jvm.OwnK.Sta_keep S_CS K36
  replace E := E.keep K36
  replace FV := FV.keep K36 nin0
  replace FC := FC.keep K36 nin0
  replace A := A.keep K36 nin0
  replace O := O.keep K36 (all0)
  replace KP := KP.trans K36 (all0)
  show Go Γ n0 _ T (mkF Γ.m 39 #[.val (.ref s), .val (.ref a), .val (.int (0 : Int32)), .val (.int z), .val .null, .unset] [(.ref b)])
  refine k_astore G X d13_39 (pc' := 41) rfl rfl (l' := #[.val (.ref s), .val (.ref a), .val (.int (0 : Int32)), .val (.int z), .val .null, .val (.ref b)]) rfl ?_
  have ne_s_b : s ≠ b := Nat.ne_of_lt (Nat.lt_of_lt_of_le E0.lt sz_b)
  have ne_a_b : a ≠ b := Nat.ne_of_lt (Nat.lt_of_lt_of_le A0.lt sz_b)
  refine k_aloadN G X d13_41 (pc' := 42) rfl rfl rfl ?_
  refine k_aload G X d13_42 (pc' := 44) rfl rfl rfl ?_
  refine k_iloadN G X d13_44 (pc' := 45) rfl rfl ?_
  refine k_callS G X (argsL := [(.ref b), (.int z)]) (rest := [(.ref s)]) rfl (w78 hw) (w79 hw) (w73 hw) (w80 hw) (by decide) (str_cod hw b kb n z _ h36 n0 _ hz B) d13_45 pd11 rfl (pc' := 48) rfl rfl (wd := 1) rfl (by decide) (by decide) (by decide) (by decide) (fun T h45 v sf45 X q => ?_)
  replace X := W.drop X
  obtain ⟨rfl, e45⟩ := q
  replace X := X.eq e45
  show Go Γ n0 _ T (mkF Γ.m 48 #[.val (.ref s), .val (.ref a), .val (.int (0 : Int32)), .val (.int z), .val .null, .val (.ref b)] [(.int (0 : Int32)), (.ref s)])
  refine k_putFN G X (w47 hw) Via.refl FC E (Or.inr ⟨(w14 hw), rfl, rfl⟩) (w11 hw) (ty := .byte) (v' := (.int (0 : Int32))) (by decide) rfl rfl ge_s (List.mem_append_right [] gm_s.2) d13_48 (pc' := 51) rfl (fun T h48 W48 X => ?_)
  replace E := E.wr W48
  replace FV := FV.other W48 (Or.inr (slot_ne (Or.inr (w13 hw)) (Or.inr (w14 hw)) (by decide) (t := (.array .byte)) (t' := .byte) (by decide) (by decide)))
  replace FC := FC.same W48
  replace A := A.other W48 (Ne.symm ne_s_a)
  replace O := O.wr W48 ge_s
  replace KP := KP.wr W48 (Or.inl (List.mem_of_getElem? (i := 0) rfl))
  replace S_CS := S_CS.wr W48
  replace B := B.other W48 (Ne.symm ne_s_b)
  refine k_aloadN G X d13_51 (pc' := 52) rfl rfl rfl ?_
  refine k_aload G X d13_52 (pc' := 54) rfl rfl rfl ?_
  refine k_putF G X (host := "") (Or.inl (w40 hw)) Via.refl FV E (Or.inr ⟨(w13 hw), rfl, rfl⟩) (w11 hw) (ty := (.array .byte)) (by decide) rfl rfl ge_s (List.mem_append_right [] gm_s.2) d13_54 (pc' := 57) rfl (fun T h54 W54 X => ?_)
  replace E := E.wr W54
  replace FV := FV.same W54
  replace FC := FC.other W54 (Or.inr (slot_ne (Or.inr (w14 hw)) (Or.inr (w13 hw)) (by decide) (t := .byte) (t' := (.array .byte)) (by decide) (by decide)))
  replace A := A.other W54 (Ne.symm ne_s_a)
  replace O := O.wr W54 ge_s
  replace KP := KP.wr W54 (Or.inl (List.mem_of_getElem? (i := 0) rfl))
  replace S_CS := S_CS.wr W54
  replace B := B.other W54 (Ne.symm ne_s_b)
  refine k_retv G X d13_57 rfl ?_ (by decide) (by decide)
  exact ⟨rfl, KP, b, kb, sz_b, E, FC, FV, B⟩
theorem pn_12 : plainFor (⟨"java/lang/String", "<init>", "([C)V"⟩ : MethodName) = true := plainFor_of_name (by first | (simp [plainName, overriddenIn]; done) | decide +kernel)
set_option maxRecDepth 65536 in
set_option maxHeartbeats 40000000 in
theorem str_init {Z : State} {a0 : Array Value} (hw : HW a0 Z) (s a : Addr) (ka : ClassId) (n : Nat) (z cs : Int32) (c : Nat → Int32) (h0 : Heap) (n0 : Nat) (sf0 : List Addr) (hz : z.toInt = n) (hn : n ≤ 5) (hn1 : 1 ≤ n) (E : Exa Z h0 s "java/lang/String") (FV : Fld Z h0 s "java/lang/String" "value" "[B" .null) (FC : Fld Z h0 s "java/lang/String" "coder" "B" (.int 0)) (A : Arf Z h0 a ka .char n (fun i => .int (c i))) (ne_s_a : s ≠ a) (gm_s : n0 ≤ s ∧ s ∈ sf0) (O : Old Z n0 h0) (S_CS : Sta Z h0 "java/lang/String" "COMPACT_STRINGS" "Z" (.int cs)) (hcs : cs ≠ 0) (hc : ∀ i, i < n → 0 ≤ (c i).toInt ∧ (c i).toInt ≤ 255) :
    MetW Z consts_1 sf0 (⟨"java/lang/String", "<init>", "([C)V"⟩ : MethodName) jdk_42_method_3_code 2 none [] ({ frames := 3, cells := 1, slots := 5, locals := 54 } : Room) #[(.ref s), (.ref a)] h0 n0 (fun v h sf => v = none ∧ Keep h0 h [s] ∧ ∃ b kb, h0.size ≤ b ∧ Str Z h s b kb n (fun i => (c i).toInt8.toInt32)) := by
  refine k_body (hEW hw) (f := (fun m => mkF m 0 #[.val (.ref s), .val (.ref a)] [])) pn_12 (fun m => by first | (simp [entryFrame, mkF, argsToLocals, Value.category, maxLocals]; done) | rfl) ?_
  intro Γ T G X
  have ge_s := gm_s.1
  have KP := Keep.refl h0 [s]
  show Go Γ n0 _ T (mkF Γ.m 0 #[.val (.ref s), .val (.ref a)] [])
  refine k_aloadN G X d12_0 (pc' := 1) rfl rfl rfl ?_
  refine k_aloadN G X d12_1 (pc' := 2) rfl rfl rfl ?_
  refine k_iconst G X d12_2 (pc' := 3) rfl (z := (0 : Int32)) (by decide) ?_
  refine k_aloadN G X d12_3 (pc' := 4) rfl rfl rfl ?_
  refine k_alen G X (z := z) A hz d12_4 (pc' := 5) rfl ?_
  refine k_anull G X d12_5 (pc' := 6) rfl ?_
  refine k_callI G X (argsL := [(.ref a), (.int (0 : Int32)), (.int z), .null]) (rest := []) rfl rfl (w68 hw) (w69 hw) (w10 hw) (w70 hw) (by decide) (str_init4 hw s a ka n z cs c h0 n0 _ hz hn hn1 E FV FC A ne_s_a ⟨ge_s, (List.mem_append_right [] gm_s.2)⟩ O S_CS hcs hc) d12_6 pd12 rfl (pc' := 9) rfl rfl (wd := 0) rfl (by decide) (by decide) (by decide) (by decide) (fun T h6 v sf6 X q => ?_)
  replace X := W.drop X
  obtain ⟨rfl, q⟩ := q
  show Go Γ n0 _ T (mkF Γ.m 9 #[.val (.ref s), .val (.ref a)] [])
  refine k_retv G X d12_9 rfl ?_ (by decide) (by decide)
  exact ⟨rfl, q⟩
theorem pn_9 : plainFor (⟨"java/lang/StringLatin1", "canEncode", "(C)Z"⟩ : MethodName) = true := plainFor_of_name (by first | (simp [plainName, overriddenIn]; done) | decide +kernel)
set_option maxRecDepth 65536 in
set_option maxHeartbeats 40000000 in
theorem sv_c {Z : State} {a0 : Array Value} (hw : HW a0 Z) (c : Int32) (h0 : Heap) (n0 : Nat) (sf0 : List Addr) (hc : c.toInt ≤ 255) :
    MetW Z consts_1 sf0 (⟨"java/lang/StringLatin1", "canEncode", "(C)Z"⟩ : MethodName) jdk_43_method_3_code 1 (some .boolean) [] ({ frames := 0, cells := 0, slots := 0, locals := 0 } : Room) #[(.int c)] h0 n0 (fun v h sf => v = some (.int 1) ∧ h = h0) := by
  refine k_body (hEW hw) (f := (fun m => mkF m 0 #[.val (.int c)] [])) pn_9 (fun m => by first | (simp [entryFrame, mkF, argsToLocals, Value.category, maxLocals]; done) | rfl) ?_
  intro Γ T G X
  show Go Γ n0 _ T (mkF Γ.m 0 #[.val (.int c)] [])
  refine k_iloadN G X d9_0 (pc' := 1) rfl rfl ?_
  refine k_sipush G X d9_1 (pc' := 4) rfl (z := (255 : Int32)) (by decide) ?_
  refine k_icmp_gt G X d9_4 (pc' := 11) rfl (by decide) (pc'' := 7) rfl (fun c4 => (absurd c4 (by rw [show (255 : Int32).toInt = 255 from rfl]; omega))) (fun c4 => ?_)
  refine k_iconst G X d9_7 (pc' := 8) rfl (z := (1 : Int32)) (by decide) ?_
  refine k_goto G X d9_8 (by decide) (pc' := 12) rfl ?_
  refine k_retb G X d9_12 (t := .boolean) rfl (by simp) rfl ?_ (by decide) (by decide)
  exact ⟨rfl, rfl⟩
theorem pn_10 : plainFor (⟨"java/lang/StringLatin1", "toBytes", "(C)[B"⟩ : MethodName) = true := plainFor_of_name (by first | (simp [plainName, overriddenIn]; done) | decide +kernel)
set_option maxRecDepth 65536 in
set_option maxHeartbeats 40000000 in
theorem sv_t {Z : State} {a0 : Array Value} (hw : HW a0 Z) (c : Int32) (h0 : Heap) (n0 : Nat) (sf0 : List Addr) (O : Old Z n0 h0) :
    MetW Z consts_1 sf0 (⟨"java/lang/StringLatin1", "toBytes", "(C)[B"⟩ : MethodName) jdk_43_method_46_code 1 (some (.array .byte)) [] ({ frames := 0, cells := 1, slots := 1, locals := 0 } : Room) #[(.int c)] h0 n0 (fun v h sf => ∃ b k, v = some (.ref b) ∧ h0.size ≤ b ∧ Keep h0 h [] ∧ Arf Z h b k .byte 1 (fun _ => .int c.toInt8.toInt32)) := by
  refine k_body (hEW hw) (f := (fun m => mkF m 0 #[.val (.int c)] [])) pn_10 (fun m => by first | (simp [entryFrame, mkF, argsToLocals, Value.category, maxLocals]; done) | rfl) ?_
  intro Γ T G X
  have KP := Keep.refl h0 []
  show Go Γ n0 _ T (mkF Γ.m 0 #[.val (.int c)] [])
  refine k_iconst G X d10_0 (pc' := 1) rfl (z := (1 : Int32)) (by decide) ?_
  refine k_newP G X (aty := .byte) (n := 1) (cap := 1) (w12 hw) d10_1 (pc' := 3) rfl rfl (by decide) (by decide) (by decide) (by decide) (fun T h1 b1 k1 s_b1 E1 A_b1 X => ?_)
  have ge_b1 : n0 ≤ b1 := Nat.le_trans (Jvm.OwnK.Old_le O) (Nat.le_of_eq s_b1)
  have sz_b1 : h0.size ≤ b1 := Nat.le_trans KP.1 (Nat.le_of_eq s_b1)
  replace O := O.ext E1
  replace KP := KP.ext E1
  replace A_b1 : Arf Z h1 b1 k1 .byte 1 (fun _ => (.int (0 : Int32))) := A_b1
  refine k_dup G X d10_3 (pc' := 4) rfl rfl ?_
  refine k_iconst G X d10_4 (pc' := 5) rfl (z := (0 : Int32)) (by decide) ?_
  refine k_iloadN G X d10_5 (pc' := 6) rfl rfl ?_
  refine k_i2b G X d10_6 (pc' := 7) rfl rfl ?_
  refine k_bastore G X (i := 0) (z := (c.toInt8.toInt32)) A_b1 rfl (by decide) (by simp [nar]) ge_b1 (List.mem_of_getElem? (i := 0) rfl) d10_7 (pc' := 8) rfl (fun T h7 W7 A_b1 X => ?_)
  replace O := O.wr W7 ge_b1
  replace KP := KP.wr W7 (Or.inr sz_b1)
  refine k_reta G X d10_8 (t := (.array .byte)) rfl rfl rfl ?_ (by decide) (by decide)
  exact ⟨b1, k1, rfl, sz_b1, KP, A_b1.congr fun i hi => by rw [show i = 0 by omega]; rfl⟩
theorem pn_11 : plainFor (⟨"java/lang/String", "<init>", "([BB)V"⟩ : MethodName) = true := plainFor_of_name (by first | (simp [plainName, overriddenIn]; done) | decide +kernel)
set_option maxRecDepth 65536 in
set_option maxHeartbeats 40000000 in
theorem sv_i {Z : State} {a0 : Array Value} (hw : HW a0 Z) (s b : Addr) (h0 : Heap) (n0 : Nat) (sf0 : List Addr) (gm_s : n0 ≤ s ∧ s ∈ sf0) (E : Exa Z h0 s "java/lang/String") (FV : Fld Z h0 s "java/lang/String" "value" "[B" .null) (FC : Fld Z h0 s "java/lang/String" "coder" "B" (.int (0 : Int32))) :
    MetW Z consts_1 sf0 (⟨"java/lang/String", "<init>", "([BB)V"⟩ : MethodName) jdk_42_method_151_code 3 none [] ({ frames := 1, cells := 0, slots := 0, locals := 12 } : Room) #[(.ref s), (.ref b), (.int (0 : Int32))] h0 n0 (fun v h sf => v = none ∧ Keep h0 h [s] ∧ Exa Z h s "java/lang/String" ∧ Fld Z h s "java/lang/String" "coder" "B" (.int (0 : Int32)) ∧ Fld Z h s "java/lang/String" "value" "[B" (.ref b)) := by
  refine k_body (hEW hw) (f := (fun m => mkF m 0 #[.val (.ref s), .val (.ref b), .val (.int (0 : Int32))] [])) pn_11 (fun m => by first | (simp [entryFrame, mkF, argsToLocals, Value.category, maxLocals]; done) | rfl) ?_
  intro Γ T G X
  have ge_s := gm_s.1
  have KP := Keep.refl h0 [s]
  show Go Γ n0 _ T (mkF Γ.m 0 #[.val (.ref s), .val (.ref b), .val (.int (0 : Int32))] [])
  refine k_aloadN G X d11_0 (pc' := 1) rfl rfl rfl ?_
  refine k_initO G X (w63 hw) (w24 hw) (w25 hw) d11_1 (pc' := 4) rfl rfl (by decide) (wd := 0) rfl (by decide) (fun T X => ?_)
  refine k_aloadN G X d11_4 (pc' := 5) rfl rfl rfl ?_
  refine k_aloadN G X d11_5 (pc' := 6) rfl rfl rfl ?_
  refine k_putF G X (host := "") (Or.inl (w40 hw)) Via.refl FV E (Or.inr ⟨(w13 hw), rfl, rfl⟩) (w11 hw) (ty := (.array .byte)) (by decide) rfl rfl ge_s (List.mem_append_right [] gm_s.2) d11_6 (pc' := 9) rfl (fun T h6 W6 X => ?_)
  replace E := E.wr W6
  replace FV := FV.same W6
  replace FC := FC.other W6 (Or.inr (slot_ne (Or.inr (w14 hw)) (Or.inr (w13 hw)) (by decide) (t := .byte) (t' := (.array .byte)) (by decide) (by decide)))
  replace KP := KP.wr W6 (Or.inl (List.mem_of_getElem? (i := 0) rfl))
  refine k_aloadN G X d11_9 (pc' := 10) rfl rfl rfl ?_
  refine k_iloadN G X d11_10 (pc' := 11) rfl rfl ?_
  refine k_putFN G X (w47 hw) Via.refl FC E (Or.inr ⟨(w14 hw), rfl, rfl⟩) (w11 hw) (ty := .byte) (v' := (.int (0 : Int32))) (by decide) rfl rfl ge_s (List.mem_append_right [] gm_s.2) d11_11 (pc' := 14) rfl (fun T h11 W11 X => ?_)
  replace E := E.wr W11
  replace FV := FV.other W11 (Or.inr (slot_ne (Or.inr (w13 hw)) (Or.inr (w14 hw)) (by decide) (t := (.array .byte)) (t' := .byte) (by decide) (by decide)))
  replace FC := FC.same W11
  replace KP := KP.wr W11 (Or.inl (List.mem_of_getElem? (i := 0) rfl))
  refine k_retv G X d11_14 rfl ?_ (by decide) (by decide)
  exact ⟨rfl, KP, E, FC, FV⟩
theorem pn_8 : plainFor (⟨"java/lang/String", "valueOf", "(C)Ljava/lang/String;"⟩ : MethodName) = true := plainFor_of_name (by first | (simp [plainName, overriddenIn]; done) | decide +kernel)
set_option maxRecDepth 65536 in
set_option maxHeartbeats 40000000 in
theorem sv {Z : State} {a0 : Array Value} (hw : HW a0 Z) (c cs : Int32) (h0 : Heap) (n0 : Nat) (sf0 : List Addr) (hc : c.toInt ≤ 255) (O : Old Z n0 h0) (S_CS : Sta Z h0 "java/lang/String" "COMPACT_STRINGS" "Z" (.int cs)) (hcs : cs ≠ 0) :
    MetW Z consts_1 sf0 (⟨"java/lang/String", "valueOf", "(C)Ljava/lang/String;"⟩ : MethodName) jdk_42_method_139_code 1 (some (.object "java/lang/String")) [] ({ frames := 2, cells := 2, slots := 5, locals := 28 } : Room) #[(.int c)] h0 n0 (fun v h sf => ∃ s b k, v = some (.ref s) ∧ h0.size ≤ s ∧ h0.size ≤ b ∧ Keep h0 h [] ∧ Str Z h s b k 1 (fun _ => c.toInt8.toInt32)) := by
  refine k_body (hEW hw) (f := (fun m => mkF m 0 #[.val (.int c)] [])) pn_8 (fun m => by first | (simp [entryFrame, mkF, argsToLocals, Value.category, maxLocals]; done) | rfl) ?_
  intro Γ T G X
  have KP := Keep.refl h0 []
  show Go Γ n0 _ T (mkF Γ.m 0 #[.val (.int c)] [])
  refine k_getS G X (host := "") (Or.inl (w46 hw)) Via.refl S_CS d8_0 (pc' := 3) rfl (fun T X => ?_)
  refine k_if_eq G X d8_3 (pc' := 26) rfl (by decide) (pc'' := 6) rfl (fun c3 => (absurd c3 hcs)) (fun c3 => ?_)
  refine k_iloadN G X d8_6 (pc' := 7) rfl rfl ?_
  refine k_callS G X (argsL := [(.int c)]) (rest := []) rfl (w51 hw) (w52 hw) (w53 hw) (w54 hw) (by decide) (sv_c hw c h0 n0 _ hc) d8_7 pd13 rfl (pc' := 10) rfl rfl (wd := 0) rfl (by decide) (by decide) (by decide) (by decide) (fun T h7 v sf7 X q => ?_)
  replace X := W.drop X
  obtain ⟨rfl, e7⟩ := q
  replace X := X.eq e7
  show Go Γ n0 _ T (mkF Γ.m 10 #[.val (.int c)] [(.int (1 : Int32))])
  refine k_if_eq G X d8_10 (pc' := 26) rfl (by decide) (pc'' := 13) rfl (fun c10 => (absurd c10 (by decide))) (fun c10 => ?_)
  refine k_new G X (w55 hw) (w11 hw) (w10 hw) d8_13 (pc' := 16) rfl (by decide) (by decide) (fun T h13 b13 s_b13 E13 X_b13 D13 X => ?_)
  have ge_b13 : n0 ≤ b13 := Nat.le_trans (Jvm.OwnK.Old_le O) (Nat.le_of_eq s_b13)
  have sz_b13 : h0.size ≤ b13 := Nat.le_trans KP.1 (Nat.le_of_eq s_b13)
  replace O := O.ext E13
  replace KP := KP.ext E13
  replace S_CS := S_CS.ext E13
  have F_b13_value : Fld Z h13 b13 "java/lang/String" "value" "[B" .null := D13 (Or.inr (w13 hw)) (ty := (.array .byte)) (by decide)
  have F_b13_coder : Fld Z h13 b13 "java/lang/String" "coder" "B" (.int (0 : Int32)) := D13 (Or.inr (w14 hw)) (ty := .byte) (by decide)
  refine k_dup G X d8_16 (pc' := 17) rfl rfl ?_
  refine k_iloadN G X d8_17 (pc' := 18) rfl rfl ?_
  refine k_callS G X (argsL := [(.int c)]) (rest := [(.ref b13), (.ref b13)]) rfl (w56 hw) (w57 hw) (w53 hw) (w58 hw) (by decide) (sv_t hw c h13 n0 _ O) d8_18 pd14 rfl (pc' := 21) rfl rfl (wd := 2) rfl (by decide) (by decide) (by decide) (by decide) (fun T h18 v sf18 X q => ?_)
  replace X := W.drop X
  obtain ⟨b, k, rfl, sz_b, K18, A⟩ := q
  have ne_b13_b : b13 ≠ b := Nat.ne_of_lt (Nat.lt_of_lt_of_le X_b13.lt sz_b)
  have sz_b' : h0.size ≤ b := Nat.le_trans KP.1 sz_b
  replace S_CS := Jvm.OwnK.Sta_keep S_CS K18
  replace O := O.keep K18 (all0)
  replace KP := KP.trans K18 (all0)
  replace X_b13 := X_b13.keep K18
  replace F_b13_value := F_b13_value.keep K18 nin0
  replace F_b13_coder := F_b13_coder.keep K18 nin0
  show Go Γ n0 _ T (mkF Γ.m 21 #[.val (.int c)] [(.ref b), (.ref b13), (.ref b13)])
  refine k_iconst G X d8_21 (pc' := 22) rfl (z := (0 : Int32)) (by decide) ?_
  refine k_callI G X (argsL := [(.ref b), (.int (0 : Int32))]) (rest := [(.ref b13)]) rfl rfl (w59 hw) (w60 hw) (w10 hw) (w62 hw) (by decide) (sv_i hw b13 b h18 n0 _ ⟨ge_b13, (List.mem_of_getElem? (i := 0) rfl)⟩ X_b13 F_b13_value F_b13_coder) d8_22 pd15 rfl (pc' := 25) rfl rfl (wd := 1) rfl (by decide) (by decide) (by decide) (by decide) (fun T h22 v sf22 X q => ?_)
  replace X := W.drop X
  obtain ⟨rfl, K22, E', FC', FV'⟩ := q
  replace S_CS := Sta_keepL S_CS K22 (allS (Pln_exa X_b13) (all0))
  replace O := O.keep K22 (allS ge_b13 (all0))
  replace KP := KP.trans K22 (allS (Or.inr sz_b13) (all0))
  replace X_b13 := X_b13.keep K22
  replace A := A.keep K22 (by simp only [List.mem_cons, List.not_mem_nil, or_false, not_or]; exact (Ne.symm ne_b13_b))
  show Go Γ n0 _ T (mkF Γ.m 25 #[.val (.int c)] [(.ref b13)])
  refine k_reta G X d8_25 (t := (.object "java/lang/String")) rfl rfl rfl ?_ (by decide) (by decide)
  exact ⟨b13, b, k, rfl, sz_b13, sz_b', KP, E', FC', FV', A⟩
theorem pn_2 : plainFor (⟨"com/example/libinvariant/libinvariant/aiger/LineFieldsHasNextPinLaw", "str", "([CI)Ljava/lang/String;"⟩ : MethodName) = true := plainFor_of_name (by first | (simp [plainName, overriddenIn]; done) | decide +kernel)
set_option maxRecDepth 65536 in
set_option maxHeartbeats 40000000 in
theorem mkstr {Z : State} {a0 : Array Value} (hw : HW a0 Z) (a : Addr) (ka : ClassId) (zn cs : Int32) (n : Nat) (cc : Nat → Int32) (h0 : Heap) (n0 : Nat) (sf0 : List Addr) (hn : zn.toInt = n) (hn5 : n ≤ 5) (AC : Arf Z h0 a ka .char 5 (fun i => .int (cc i))) (hcc : ∀ i, i < 5 → 0 ≤ (cc i).toInt ∧ (cc i).toInt ≤ 255 ∧ ((cc i).toInt = 32 ∨ (48 ≤ (cc i).toInt ∧ (cc i).toInt ≤ 57))) (O : Old Z n0 h0) (S_CS : Sta Z h0 "java/lang/String" "COMPACT_STRINGS" "Z" (.int cs)) (hcs : cs ≠ 0) :
    MetW Z consts_1 sf0 (⟨"com/example/libinvariant/libinvariant/aiger/LineFieldsHasNextPinLaw", "str", "([CI)Ljava/lang/String;"⟩ : MethodName) method_3_code 2 (some (.object "java/lang/String")) [] ({ frames := 4, cells := 3, slots := 14, locals := 68 } : Room) #[(.ref a), (.int zn)] h0 n0 (fun v h sf => ∃ s b kb, v = some (.ref s) ∧ Keep h0 h [] ∧ Str Z h s b kb n (fun i => (cc i).toInt8.toInt32)) := by
  refine k_body (hEW hw) (f := (fun m => mkF m 0 #[.val (.ref a), .val (.int zn)] [])) pn_2 (fun m => by first | (simp [entryFrame, mkF, argsToLocals, Value.category, maxLocals]; done) | rfl) ?_
  intro Γ T G X
  have KP := Keep.refl h0 []
  show Go Γ n0 _ T (mkF Γ.m 0 #[.val (.ref a), .val (.int zn)] [])
  refine k_iloadN G X d2_0 (pc' := 1) rfl rfl ?_
  refine k_if_ne G X d2_1 (pc' := 7) rfl (by decide) (pc'' := 4) rfl (fun c1 => ?_) (fun c1 => ?_)
  · refine k_iloadN G X d2_7 (pc' := 8) rfl rfl ?_
    refine k_iconst G X d2_8 (pc' := 9) rfl (z := (1 : Int32)) (by decide) ?_
    refine k_icmp_ne G X d2_9 (pc' := 19) rfl (by decide) (pc'' := 12) rfl (fun c9 => ?_) (fun c9 => ?_)
    · refine k_iloadN G X d2_19 (pc' := 20) rfl rfl ?_
      refine k_iconst G X d2_20 (pc' := 21) rfl (z := (2 : Int32)) (by decide) ?_
      refine k_icmp_ne G X d2_21 (pc' := 47) rfl (by decide) (pc'' := 24) rfl (fun c21 => ?_) (fun c21 => ?_)
      · refine k_iloadN G X d2_47 (pc' := 48) rfl rfl ?_
        refine k_iconst G X d2_48 (pc' := 49) rfl (z := (3 : Int32)) (by decide) ?_
        refine k_icmp_ne G X d2_49 (pc' := 81) rfl (by decide) (pc'' := 52) rfl (fun c49 => ?_) (fun c49 => ?_)
        · refine k_iloadN G X d2_81 (pc' := 82) rfl rfl ?_
          refine k_iconst G X d2_82 (pc' := 83) rfl (z := (4 : Int32)) (by decide) ?_
          refine k_icmp_ne G X d2_83 (pc' := 121) rfl (by decide) (pc'' := 86) rfl (fun c83 => ?_) (fun c83 => ?_)
          · refine k_new G X (w64 hw) (w11 hw) (w10 hw) d2_121 (pc' := 124) rfl (by decide) (by decide) (fun T h121 b121 s_b121 E121 X_b121 D121 X => ?_)
            have ne_a_b121 : a ≠ b121 := Nat.ne_of_lt (Nat.lt_of_lt_of_eq AC.lt s_b121)
            have ge_b121 : n0 ≤ b121 := Nat.le_trans (Jvm.OwnK.Old_le O) (Nat.le_of_eq s_b121)
            have sz_b121 : h0.size ≤ b121 := Nat.le_trans KP.1 (Nat.le_of_eq s_b121)
            replace O := O.ext E121
            replace KP := KP.ext E121
            replace S_CS := S_CS.ext E121
            replace AC := AC.ext E121
            have F_b121_value : Fld Z h121 b121 "java/lang/String" "value" "[B" .null := D121 (Or.inr (w13 hw)) (ty := (.array .byte)) (by decide)
            have F_b121_coder : Fld Z h121 b121 "java/lang/String" "coder" "B" (.int (0 : Int32)) := D121 (Or.inr (w14 hw)) (ty := .byte) (by decide)
            refine k_dup G X d2_124 (pc' := 125) rfl rfl ?_
            refine k_iconst G X d2_125 (pc' := 126) rfl (z := (5 : Int32)) (by decide) ?_
            refine k_newP G X (aty := .char) (n := 5) (cap := 5) (w1 hw) d2_126 (pc' := 128) rfl rfl (by decide) (by decide) (by decide) (by decide) (fun T h126 b126 k126 s_b126 E126 A_b126 X => ?_)
            have ne_a_b126 : a ≠ b126 := Nat.ne_of_lt (Nat.lt_of_lt_of_eq AC.lt s_b126)
            have ne_b121_b126 : b121 ≠ b126 := Nat.ne_of_lt (Nat.lt_of_lt_of_eq X_b121.lt s_b126)
            have ge_b126 : n0 ≤ b126 := Nat.le_trans (Jvm.OwnK.Old_le O) (Nat.le_of_eq s_b126)
            have sz_b126 : h0.size ≤ b126 := Nat.le_trans KP.1 (Nat.le_of_eq s_b126)
            replace O := O.ext E126
            replace KP := KP.ext E126
            replace S_CS := S_CS.ext E126
            replace AC := AC.ext E126
            replace X_b121 := X_b121.ext E126
            replace F_b121_value := F_b121_value.ext E126
            replace F_b121_coder := F_b121_coder.ext E126
            replace A_b126 : Arf Z h126 b126 k126 .char 5 (fun _ => (.int (0 : Int32))) := A_b126
            refine k_dup G X d2_128 (pc' := 129) rfl rfl ?_
            refine k_iconst G X d2_129 (pc' := 130) rfl (z := (0 : Int32)) (by decide) ?_
            refine k_aloadN G X d2_130 (pc' := 131) rfl rfl rfl ?_
            refine k_iconst G X d2_131 (pc' := 132) rfl (z := (0 : Int32)) (by decide) ?_
            refine k_caload G X (i := 0) (v := (.int (cc 0))) AC rfl (by decide) rfl d2_132 (pc' := 133) rfl ?_
            refine k_castore G X (i := 0) (z := (cc 0)) A_b126 rfl (by decide) (nar_char (hcc 0 (by decide)).1 (hcc 0 (by decide)).2.1) ge_b126 (List.mem_of_getElem? (i := 0) rfl) d2_133 (pc' := 134) rfl (fun T h133 W133 A_b126 X => ?_)
            replace O := O.wr W133 ge_b126
            replace KP := KP.wr W133 (Or.inr sz_b126)
            replace S_CS := S_CS.wr W133
            replace AC := AC.other W133 ne_a_b126
            replace X_b121 := X_b121.wr W133
            replace F_b121_value := F_b121_value.other W133 (Or.inl ne_b121_b126)
            replace F_b121_coder := F_b121_coder.other W133 (Or.inl ne_b121_b126)
            refine k_dup G X d2_134 (pc' := 135) rfl rfl ?_
            refine k_iconst G X d2_135 (pc' := 136) rfl (z := (1 : Int32)) (by decide) ?_
            refine k_aloadN G X d2_136 (pc' := 137) rfl rfl rfl ?_
            refine k_iconst G X d2_137 (pc' := 138) rfl (z := (1 : Int32)) (by decide) ?_
            refine k_caload G X (i := 1) (v := (.int (cc 1))) AC rfl (by decide) rfl d2_138 (pc' := 139) rfl ?_
            refine k_castore G X (i := 1) (z := (cc 1)) A_b126 rfl (by decide) (nar_char (hcc 1 (by decide)).1 (hcc 1 (by decide)).2.1) ge_b126 (List.mem_of_getElem? (i := 0) rfl) d2_139 (pc' := 140) rfl (fun T h139 W139 A_b126 X => ?_)
            replace O := O.wr W139 ge_b126
            replace KP := KP.wr W139 (Or.inr sz_b126)
            replace S_CS := S_CS.wr W139
            replace AC := AC.other W139 ne_a_b126
            replace X_b121 := X_b121.wr W139
            replace F_b121_value := F_b121_value.other W139 (Or.inl ne_b121_b126)
            replace F_b121_coder := F_b121_coder.other W139 (Or.inl ne_b121_b126)
            refine k_dup G X d2_140 (pc' := 141) rfl rfl ?_
            refine k_iconst G X d2_141 (pc' := 142) rfl (z := (2 : Int32)) (by decide) ?_
            refine k_aloadN G X d2_142 (pc' := 143) rfl rfl rfl ?_
            refine k_iconst G X d2_143 (pc' := 144) rfl (z := (2 : Int32)) (by decide) ?_
            refine k_caload G X (i := 2) (v := (.int (cc 2))) AC rfl (by decide) rfl d2_144 (pc' := 145) rfl ?_
            refine k_castore G X (i := 2) (z := (cc 2)) A_b126 rfl (by decide) (nar_char (hcc 2 (by decide)).1 (hcc 2 (by decide)).2.1) ge_b126 (List.mem_of_getElem? (i := 0) rfl) d2_145 (pc' := 146) rfl (fun T h145 W145 A_b126 X => ?_)
            replace O := O.wr W145 ge_b126
            replace KP := KP.wr W145 (Or.inr sz_b126)
            replace S_CS := S_CS.wr W145
            replace AC := AC.other W145 ne_a_b126
            replace X_b121 := X_b121.wr W145
            replace F_b121_value := F_b121_value.other W145 (Or.inl ne_b121_b126)
            replace F_b121_coder := F_b121_coder.other W145 (Or.inl ne_b121_b126)
            refine k_dup G X d2_146 (pc' := 147) rfl rfl ?_
            refine k_iconst G X d2_147 (pc' := 148) rfl (z := (3 : Int32)) (by decide) ?_
            refine k_aloadN G X d2_148 (pc' := 149) rfl rfl rfl ?_
            refine k_iconst G X d2_149 (pc' := 150) rfl (z := (3 : Int32)) (by decide) ?_
            refine k_caload G X (i := 3) (v := (.int (cc 3))) AC rfl (by decide) rfl d2_150 (pc' := 151) rfl ?_
            refine k_castore G X (i := 3) (z := (cc 3)) A_b126 rfl (by decide) (nar_char (hcc 3 (by decide)).1 (hcc 3 (by decide)).2.1) ge_b126 (List.mem_of_getElem? (i := 0) rfl) d2_151 (pc' := 152) rfl (fun T h151 W151 A_b126 X => ?_)
            replace O := O.wr W151 ge_b126
            replace KP := KP.wr W151 (Or.inr sz_b126)
            replace S_CS := S_CS.wr W151
            replace AC := AC.other W151 ne_a_b126
            replace X_b121 := X_b121.wr W151
            replace F_b121_value := F_b121_value.other W151 (Or.inl ne_b121_b126)
            replace F_b121_coder := F_b121_coder.other W151 (Or.inl ne_b121_b126)
            refine k_dup G X d2_152 (pc' := 153) rfl rfl ?_
            refine k_iconst G X d2_153 (pc' := 154) rfl (z := (4 : Int32)) (by decide) ?_
            refine k_aloadN G X d2_154 (pc' := 155) rfl rfl rfl ?_
            refine k_iconst G X d2_155 (pc' := 156) rfl (z := (4 : Int32)) (by decide) ?_
            refine k_caload G X (i := 4) (v := (.int (cc 4))) AC rfl (by decide) rfl d2_156 (pc' := 157) rfl ?_
            refine k_castore G X (i := 4) (z := (cc 4)) A_b126 rfl (by decide) (nar_char (hcc 4 (by decide)).1 (hcc 4 (by decide)).2.1) ge_b126 (List.mem_of_getElem? (i := 0) rfl) d2_157 (pc' := 158) rfl (fun T h157 W157 A_b126 X => ?_)
            replace O := O.wr W157 ge_b126
            replace KP := KP.wr W157 (Or.inr sz_b126)
            replace S_CS := S_CS.wr W157
            replace AC := AC.other W157 ne_a_b126
            replace X_b121 := X_b121.wr W157
            replace F_b121_value := F_b121_value.other W157 (Or.inl ne_b121_b126)
            replace F_b121_coder := F_b121_coder.other W157 (Or.inl ne_b121_b126)
            refine k_callI G X (argsL := [(.ref b126)]) (rest := [(.ref b121)]) rfl rfl (w65 hw) (w66 hw) (w10 hw) (w67 hw) (by decide) (str_init hw b121 b126 k126 5 (5 : Int32) cs cc h157 n0 _ rfl (by decide) (by decide) X_b121 F_b121_value F_b121_coder (A_b126.congr fun i hi => by rcases (by omega : i = 0 ∨ i = 1 ∨ i = 2 ∨ i = 3 ∨ i = 4) with rfl | rfl | rfl | rfl | rfl <;> rfl) ne_b121_b126 ⟨ge_b121, (List.mem_of_getElem? (i := 1) rfl)⟩ O S_CS hcs (fun i hi => ⟨(hcc i (by omega)).1, (hcc i (by omega)).2.1⟩)) d2_158 pd16 rfl (pc' := 161) rfl rfl (wd := 1) rfl (by decide) (by decide) (by decide) (by decide) (fun T h158 v sf158 X q => ?_)
            replace X := W.drop X
            obtain ⟨rfl, K158, bb, kb, sz_bb, SS5⟩ := q
            replace S_CS := Sta_keepL S_CS K158 (allS (Pln_exa X_b121) (all0))
            replace O := O.keep K158 (allS ge_b121 (all0))
            replace KP := KP.trans K158 (allS (Or.inr sz_b121) (all0))
            replace AC := AC.keep K158 (by simp only [List.mem_cons, List.not_mem_nil, or_false, not_or]; exact ne_a_b121)
            replace X_b121 := X_b121.keep K158
            replace A_b126 := A_b126.keep K158 (by simp only [List.mem_cons, List.not_mem_nil, or_false, not_or]; exact (Ne.symm ne_b121_b126))
            show Go Γ n0 _ T (mkF Γ.m 161 #[.val (.ref a), .val (.int zn)] [(.ref b121)])
            refine k_reta G X d2_161 (t := (.object "java/lang/String")) rfl rfl rfl ?_ (by decide) (by decide)
            obtain rfl : n = 5 := by have h1 : zn.toInt ≠ 0 := fun q => c1 (of_toInt q); have h2 : zn.toInt ≠ 1 := fun q => c9 (of_toInt q); have h3 : zn.toInt ≠ 2 := fun q => c21 (of_toInt q); have h4 : zn.toInt ≠ 3 := fun q => c49 (of_toInt q); have h5 : zn.toInt ≠ 4 := fun q => c83 (of_toInt q); omega
            exact ⟨b121, bb, kb, rfl, KP, SS5⟩
          · refine k_new G X (w64 hw) (w11 hw) (w10 hw) d2_86 (pc' := 89) rfl (by decide) (by decide) (fun T h86 b86 s_b86 E86 X_b86 D86 X => ?_)
            have ne_a_b86 : a ≠ b86 := Nat.ne_of_lt (Nat.lt_of_lt_of_eq AC.lt s_b86)
            have ge_b86 : n0 ≤ b86 := Nat.le_trans (Jvm.OwnK.Old_le O) (Nat.le_of_eq s_b86)
            have sz_b86 : h0.size ≤ b86 := Nat.le_trans KP.1 (Nat.le_of_eq s_b86)
            replace O := O.ext E86
            replace KP := KP.ext E86
            replace S_CS := S_CS.ext E86
            replace AC := AC.ext E86
            have F_b86_value : Fld Z h86 b86 "java/lang/String" "value" "[B" .null := D86 (Or.inr (w13 hw)) (ty := (.array .byte)) (by decide)
            have F_b86_coder : Fld Z h86 b86 "java/lang/String" "coder" "B" (.int (0 : Int32)) := D86 (Or.inr (w14 hw)) (ty := .byte) (by decide)
            refine k_dup G X d2_89 (pc' := 90) rfl rfl ?_
            refine k_iconst G X d2_90 (pc' := 91) rfl (z := (4 : Int32)) (by decide) ?_
            refine k_newP G X (aty := .char) (n := 4) (cap := 4) (w1 hw) d2_91 (pc' := 93) rfl rfl (by decide) (by decide) (by decide) (by decide) (fun T h91 b91 k91 s_b91 E91 A_b91 X => ?_)
            have ne_a_b91 : a ≠ b91 := Nat.ne_of_lt (Nat.lt_of_lt_of_eq AC.lt s_b91)
            have ne_b86_b91 : b86 ≠ b91 := Nat.ne_of_lt (Nat.lt_of_lt_of_eq X_b86.lt s_b91)
            have ge_b91 : n0 ≤ b91 := Nat.le_trans (Jvm.OwnK.Old_le O) (Nat.le_of_eq s_b91)
            have sz_b91 : h0.size ≤ b91 := Nat.le_trans KP.1 (Nat.le_of_eq s_b91)
            replace O := O.ext E91
            replace KP := KP.ext E91
            replace S_CS := S_CS.ext E91
            replace AC := AC.ext E91
            replace X_b86 := X_b86.ext E91
            replace F_b86_value := F_b86_value.ext E91
            replace F_b86_coder := F_b86_coder.ext E91
            replace A_b91 : Arf Z h91 b91 k91 .char 4 (fun _ => (.int (0 : Int32))) := A_b91
            refine k_dup G X d2_93 (pc' := 94) rfl rfl ?_
            refine k_iconst G X d2_94 (pc' := 95) rfl (z := (0 : Int32)) (by decide) ?_
            refine k_aloadN G X d2_95 (pc' := 96) rfl rfl rfl ?_
            refine k_iconst G X d2_96 (pc' := 97) rfl (z := (0 : Int32)) (by decide) ?_
            refine k_caload G X (i := 0) (v := (.int (cc 0))) AC rfl (by decide) rfl d2_97 (pc' := 98) rfl ?_
            refine k_castore G X (i := 0) (z := (cc 0)) A_b91 rfl (by decide) (nar_char (hcc 0 (by decide)).1 (hcc 0 (by decide)).2.1) ge_b91 (List.mem_of_getElem? (i := 0) rfl) d2_98 (pc' := 99) rfl (fun T h98 W98 A_b91 X => ?_)
            replace O := O.wr W98 ge_b91
            replace KP := KP.wr W98 (Or.inr sz_b91)
            replace S_CS := S_CS.wr W98
            replace AC := AC.other W98 ne_a_b91
            replace X_b86 := X_b86.wr W98
            replace F_b86_value := F_b86_value.other W98 (Or.inl ne_b86_b91)
            replace F_b86_coder := F_b86_coder.other W98 (Or.inl ne_b86_b91)
            refine k_dup G X d2_99 (pc' := 100) rfl rfl ?_
            refine k_iconst G X d2_100 (pc' := 101) rfl (z := (1 : Int32)) (by decide) ?_
            refine k_aloadN G X d2_101 (pc' := 102) rfl rfl rfl ?_
            refine k_iconst G X d2_102 (pc' := 103) rfl (z := (1 : Int32)) (by decide) ?_
            refine k_caload G X (i := 1) (v := (.int (cc 1))) AC rfl (by decide) rfl d2_103 (pc' := 104) rfl ?_
            refine k_castore G X (i := 1) (z := (cc 1)) A_b91 rfl (by decide) (nar_char (hcc 1 (by decide)).1 (hcc 1 (by decide)).2.1) ge_b91 (List.mem_of_getElem? (i := 0) rfl) d2_104 (pc' := 105) rfl (fun T h104 W104 A_b91 X => ?_)
            replace O := O.wr W104 ge_b91
            replace KP := KP.wr W104 (Or.inr sz_b91)
            replace S_CS := S_CS.wr W104
            replace AC := AC.other W104 ne_a_b91
            replace X_b86 := X_b86.wr W104
            replace F_b86_value := F_b86_value.other W104 (Or.inl ne_b86_b91)
            replace F_b86_coder := F_b86_coder.other W104 (Or.inl ne_b86_b91)
            refine k_dup G X d2_105 (pc' := 106) rfl rfl ?_
            refine k_iconst G X d2_106 (pc' := 107) rfl (z := (2 : Int32)) (by decide) ?_
            refine k_aloadN G X d2_107 (pc' := 108) rfl rfl rfl ?_
            refine k_iconst G X d2_108 (pc' := 109) rfl (z := (2 : Int32)) (by decide) ?_
            refine k_caload G X (i := 2) (v := (.int (cc 2))) AC rfl (by decide) rfl d2_109 (pc' := 110) rfl ?_
            refine k_castore G X (i := 2) (z := (cc 2)) A_b91 rfl (by decide) (nar_char (hcc 2 (by decide)).1 (hcc 2 (by decide)).2.1) ge_b91 (List.mem_of_getElem? (i := 0) rfl) d2_110 (pc' := 111) rfl (fun T h110 W110 A_b91 X => ?_)
            replace O := O.wr W110 ge_b91
            replace KP := KP.wr W110 (Or.inr sz_b91)
            replace S_CS := S_CS.wr W110
            replace AC := AC.other W110 ne_a_b91
            replace X_b86 := X_b86.wr W110
            replace F_b86_value := F_b86_value.other W110 (Or.inl ne_b86_b91)
            replace F_b86_coder := F_b86_coder.other W110 (Or.inl ne_b86_b91)
            refine k_dup G X d2_111 (pc' := 112) rfl rfl ?_
            refine k_iconst G X d2_112 (pc' := 113) rfl (z := (3 : Int32)) (by decide) ?_
            refine k_aloadN G X d2_113 (pc' := 114) rfl rfl rfl ?_
            refine k_iconst G X d2_114 (pc' := 115) rfl (z := (3 : Int32)) (by decide) ?_
            refine k_caload G X (i := 3) (v := (.int (cc 3))) AC rfl (by decide) rfl d2_115 (pc' := 116) rfl ?_
            refine k_castore G X (i := 3) (z := (cc 3)) A_b91 rfl (by decide) (nar_char (hcc 3 (by decide)).1 (hcc 3 (by decide)).2.1) ge_b91 (List.mem_of_getElem? (i := 0) rfl) d2_116 (pc' := 117) rfl (fun T h116 W116 A_b91 X => ?_)
            replace O := O.wr W116 ge_b91
            replace KP := KP.wr W116 (Or.inr sz_b91)
            replace S_CS := S_CS.wr W116
            replace AC := AC.other W116 ne_a_b91
            replace X_b86 := X_b86.wr W116
            replace F_b86_value := F_b86_value.other W116 (Or.inl ne_b86_b91)
            replace F_b86_coder := F_b86_coder.other W116 (Or.inl ne_b86_b91)
            refine k_callI G X (argsL := [(.ref b91)]) (rest := [(.ref b86)]) rfl rfl (w65 hw) (w66 hw) (w10 hw) (w67 hw) (by decide) (str_init hw b86 b91 k91 4 (4 : Int32) cs cc h116 n0 _ rfl (by decide) (by decide) X_b86 F_b86_value F_b86_coder (A_b91.congr fun i hi => by rcases (by omega : i = 0 ∨ i = 1 ∨ i = 2 ∨ i = 3) with rfl | rfl | rfl | rfl <;> rfl) ne_b86_b91 ⟨ge_b86, (List.mem_of_getElem? (i := 1) rfl)⟩ O S_CS hcs (fun i hi => ⟨(hcc i (by omega)).1, (hcc i (by omega)).2.1⟩)) d2_117 pd16 rfl (pc' := 120) rfl rfl (wd := 1) rfl (by decide) (by decide) (by decide) (by decide) (fun T h117 v sf117 X q => ?_)
            replace X := W.drop X
            obtain ⟨rfl, K117, bb, kb, sz_bb, SS4⟩ := q
            replace S_CS := Sta_keepL S_CS K117 (allS (Pln_exa X_b86) (all0))
            replace O := O.keep K117 (allS ge_b86 (all0))
            replace KP := KP.trans K117 (allS (Or.inr sz_b86) (all0))
            replace AC := AC.keep K117 (by simp only [List.mem_cons, List.not_mem_nil, or_false, not_or]; exact ne_a_b86)
            replace X_b86 := X_b86.keep K117
            replace A_b91 := A_b91.keep K117 (by simp only [List.mem_cons, List.not_mem_nil, or_false, not_or]; exact (Ne.symm ne_b86_b91))
            show Go Γ n0 _ T (mkF Γ.m 120 #[.val (.ref a), .val (.int zn)] [(.ref b86)])
            refine k_reta G X d2_120 (t := (.object "java/lang/String")) rfl rfl rfl ?_ (by decide) (by decide)
            obtain rfl : n = 4 := by have := congrArg Int32.toInt c83; rw [show (4 : Int32).toInt = 4 from rfl] at this; omega
            exact ⟨b86, bb, kb, rfl, KP, SS4⟩
        · refine k_new G X (w64 hw) (w11 hw) (w10 hw) d2_52 (pc' := 55) rfl (by decide) (by decide) (fun T h52 b52 s_b52 E52 X_b52 D52 X => ?_)
          have ne_a_b52 : a ≠ b52 := Nat.ne_of_lt (Nat.lt_of_lt_of_eq AC.lt s_b52)
          have ge_b52 : n0 ≤ b52 := Nat.le_trans (Jvm.OwnK.Old_le O) (Nat.le_of_eq s_b52)
          have sz_b52 : h0.size ≤ b52 := Nat.le_trans KP.1 (Nat.le_of_eq s_b52)
          replace O := O.ext E52
          replace KP := KP.ext E52
          replace S_CS := S_CS.ext E52
          replace AC := AC.ext E52
          have F_b52_value : Fld Z h52 b52 "java/lang/String" "value" "[B" .null := D52 (Or.inr (w13 hw)) (ty := (.array .byte)) (by decide)
          have F_b52_coder : Fld Z h52 b52 "java/lang/String" "coder" "B" (.int (0 : Int32)) := D52 (Or.inr (w14 hw)) (ty := .byte) (by decide)
          refine k_dup G X d2_55 (pc' := 56) rfl rfl ?_
          refine k_iconst G X d2_56 (pc' := 57) rfl (z := (3 : Int32)) (by decide) ?_
          refine k_newP G X (aty := .char) (n := 3) (cap := 3) (w1 hw) d2_57 (pc' := 59) rfl rfl (by decide) (by decide) (by decide) (by decide) (fun T h57 b57 k57 s_b57 E57 A_b57 X => ?_)
          have ne_a_b57 : a ≠ b57 := Nat.ne_of_lt (Nat.lt_of_lt_of_eq AC.lt s_b57)
          have ne_b52_b57 : b52 ≠ b57 := Nat.ne_of_lt (Nat.lt_of_lt_of_eq X_b52.lt s_b57)
          have ge_b57 : n0 ≤ b57 := Nat.le_trans (Jvm.OwnK.Old_le O) (Nat.le_of_eq s_b57)
          have sz_b57 : h0.size ≤ b57 := Nat.le_trans KP.1 (Nat.le_of_eq s_b57)
          replace O := O.ext E57
          replace KP := KP.ext E57
          replace S_CS := S_CS.ext E57
          replace AC := AC.ext E57
          replace X_b52 := X_b52.ext E57
          replace F_b52_value := F_b52_value.ext E57
          replace F_b52_coder := F_b52_coder.ext E57
          replace A_b57 : Arf Z h57 b57 k57 .char 3 (fun _ => (.int (0 : Int32))) := A_b57
          refine k_dup G X d2_59 (pc' := 60) rfl rfl ?_
          refine k_iconst G X d2_60 (pc' := 61) rfl (z := (0 : Int32)) (by decide) ?_
          refine k_aloadN G X d2_61 (pc' := 62) rfl rfl rfl ?_
          refine k_iconst G X d2_62 (pc' := 63) rfl (z := (0 : Int32)) (by decide) ?_
          refine k_caload G X (i := 0) (v := (.int (cc 0))) AC rfl (by decide) rfl d2_63 (pc' := 64) rfl ?_
          refine k_castore G X (i := 0) (z := (cc 0)) A_b57 rfl (by decide) (nar_char (hcc 0 (by decide)).1 (hcc 0 (by decide)).2.1) ge_b57 (List.mem_of_getElem? (i := 0) rfl) d2_64 (pc' := 65) rfl (fun T h64 W64 A_b57 X => ?_)
          replace O := O.wr W64 ge_b57
          replace KP := KP.wr W64 (Or.inr sz_b57)
          replace S_CS := S_CS.wr W64
          replace AC := AC.other W64 ne_a_b57
          replace X_b52 := X_b52.wr W64
          replace F_b52_value := F_b52_value.other W64 (Or.inl ne_b52_b57)
          replace F_b52_coder := F_b52_coder.other W64 (Or.inl ne_b52_b57)
          refine k_dup G X d2_65 (pc' := 66) rfl rfl ?_
          refine k_iconst G X d2_66 (pc' := 67) rfl (z := (1 : Int32)) (by decide) ?_
          refine k_aloadN G X d2_67 (pc' := 68) rfl rfl rfl ?_
          refine k_iconst G X d2_68 (pc' := 69) rfl (z := (1 : Int32)) (by decide) ?_
          refine k_caload G X (i := 1) (v := (.int (cc 1))) AC rfl (by decide) rfl d2_69 (pc' := 70) rfl ?_
          refine k_castore G X (i := 1) (z := (cc 1)) A_b57 rfl (by decide) (nar_char (hcc 1 (by decide)).1 (hcc 1 (by decide)).2.1) ge_b57 (List.mem_of_getElem? (i := 0) rfl) d2_70 (pc' := 71) rfl (fun T h70 W70 A_b57 X => ?_)
          replace O := O.wr W70 ge_b57
          replace KP := KP.wr W70 (Or.inr sz_b57)
          replace S_CS := S_CS.wr W70
          replace AC := AC.other W70 ne_a_b57
          replace X_b52 := X_b52.wr W70
          replace F_b52_value := F_b52_value.other W70 (Or.inl ne_b52_b57)
          replace F_b52_coder := F_b52_coder.other W70 (Or.inl ne_b52_b57)
          refine k_dup G X d2_71 (pc' := 72) rfl rfl ?_
          refine k_iconst G X d2_72 (pc' := 73) rfl (z := (2 : Int32)) (by decide) ?_
          refine k_aloadN G X d2_73 (pc' := 74) rfl rfl rfl ?_
          refine k_iconst G X d2_74 (pc' := 75) rfl (z := (2 : Int32)) (by decide) ?_
          refine k_caload G X (i := 2) (v := (.int (cc 2))) AC rfl (by decide) rfl d2_75 (pc' := 76) rfl ?_
          refine k_castore G X (i := 2) (z := (cc 2)) A_b57 rfl (by decide) (nar_char (hcc 2 (by decide)).1 (hcc 2 (by decide)).2.1) ge_b57 (List.mem_of_getElem? (i := 0) rfl) d2_76 (pc' := 77) rfl (fun T h76 W76 A_b57 X => ?_)
          replace O := O.wr W76 ge_b57
          replace KP := KP.wr W76 (Or.inr sz_b57)
          replace S_CS := S_CS.wr W76
          replace AC := AC.other W76 ne_a_b57
          replace X_b52 := X_b52.wr W76
          replace F_b52_value := F_b52_value.other W76 (Or.inl ne_b52_b57)
          replace F_b52_coder := F_b52_coder.other W76 (Or.inl ne_b52_b57)
          refine k_callI G X (argsL := [(.ref b57)]) (rest := [(.ref b52)]) rfl rfl (w65 hw) (w66 hw) (w10 hw) (w67 hw) (by decide) (str_init hw b52 b57 k57 3 (3 : Int32) cs cc h76 n0 _ rfl (by decide) (by decide) X_b52 F_b52_value F_b52_coder (A_b57.congr fun i hi => by rcases (by omega : i = 0 ∨ i = 1 ∨ i = 2) with rfl | rfl | rfl <;> rfl) ne_b52_b57 ⟨ge_b52, (List.mem_of_getElem? (i := 1) rfl)⟩ O S_CS hcs (fun i hi => ⟨(hcc i (by omega)).1, (hcc i (by omega)).2.1⟩)) d2_77 pd16 rfl (pc' := 80) rfl rfl (wd := 1) rfl (by decide) (by decide) (by decide) (by decide) (fun T h77 v sf77 X q => ?_)
          replace X := W.drop X
          obtain ⟨rfl, K77, bb, kb, sz_bb, SS3⟩ := q
          replace S_CS := Sta_keepL S_CS K77 (allS (Pln_exa X_b52) (all0))
          replace O := O.keep K77 (allS ge_b52 (all0))
          replace KP := KP.trans K77 (allS (Or.inr sz_b52) (all0))
          replace AC := AC.keep K77 (by simp only [List.mem_cons, List.not_mem_nil, or_false, not_or]; exact ne_a_b52)
          replace X_b52 := X_b52.keep K77
          replace A_b57 := A_b57.keep K77 (by simp only [List.mem_cons, List.not_mem_nil, or_false, not_or]; exact (Ne.symm ne_b52_b57))
          show Go Γ n0 _ T (mkF Γ.m 80 #[.val (.ref a), .val (.int zn)] [(.ref b52)])
          refine k_reta G X d2_80 (t := (.object "java/lang/String")) rfl rfl rfl ?_ (by decide) (by decide)
          obtain rfl : n = 3 := by have := congrArg Int32.toInt c49; rw [show (3 : Int32).toInt = 3 from rfl] at this; omega
          exact ⟨b52, bb, kb, rfl, KP, SS3⟩
      · refine k_new G X (w64 hw) (w11 hw) (w10 hw) d2_24 (pc' := 27) rfl (by decide) (by decide) (fun T h24 b24 s_b24 E24 X_b24 D24 X => ?_)
        have ne_a_b24 : a ≠ b24 := Nat.ne_of_lt (Nat.lt_of_lt_of_eq AC.lt s_b24)
        have ge_b24 : n0 ≤ b24 := Nat.le_trans (Jvm.OwnK.Old_le O) (Nat.le_of_eq s_b24)
        have sz_b24 : h0.size ≤ b24 := Nat.le_trans KP.1 (Nat.le_of_eq s_b24)
        replace O := O.ext E24
        replace KP := KP.ext E24
        replace S_CS := S_CS.ext E24
        replace AC := AC.ext E24
        have F_b24_value : Fld Z h24 b24 "java/lang/String" "value" "[B" .null := D24 (Or.inr (w13 hw)) (ty := (.array .byte)) (by decide)
        have F_b24_coder : Fld Z h24 b24 "java/lang/String" "coder" "B" (.int (0 : Int32)) := D24 (Or.inr (w14 hw)) (ty := .byte) (by decide)
        refine k_dup G X d2_27 (pc' := 28) rfl rfl ?_
        refine k_iconst G X d2_28 (pc' := 29) rfl (z := (2 : Int32)) (by decide) ?_
        refine k_newP G X (aty := .char) (n := 2) (cap := 2) (w1 hw) d2_29 (pc' := 31) rfl rfl (by decide) (by decide) (by decide) (by decide) (fun T h29 b29 k29 s_b29 E29 A_b29 X => ?_)
        have ne_a_b29 : a ≠ b29 := Nat.ne_of_lt (Nat.lt_of_lt_of_eq AC.lt s_b29)
        have ne_b24_b29 : b24 ≠ b29 := Nat.ne_of_lt (Nat.lt_of_lt_of_eq X_b24.lt s_b29)
        have ge_b29 : n0 ≤ b29 := Nat.le_trans (Jvm.OwnK.Old_le O) (Nat.le_of_eq s_b29)
        have sz_b29 : h0.size ≤ b29 := Nat.le_trans KP.1 (Nat.le_of_eq s_b29)
        replace O := O.ext E29
        replace KP := KP.ext E29
        replace S_CS := S_CS.ext E29
        replace AC := AC.ext E29
        replace X_b24 := X_b24.ext E29
        replace F_b24_value := F_b24_value.ext E29
        replace F_b24_coder := F_b24_coder.ext E29
        replace A_b29 : Arf Z h29 b29 k29 .char 2 (fun _ => (.int (0 : Int32))) := A_b29
        refine k_dup G X d2_31 (pc' := 32) rfl rfl ?_
        refine k_iconst G X d2_32 (pc' := 33) rfl (z := (0 : Int32)) (by decide) ?_
        refine k_aloadN G X d2_33 (pc' := 34) rfl rfl rfl ?_
        refine k_iconst G X d2_34 (pc' := 35) rfl (z := (0 : Int32)) (by decide) ?_
        refine k_caload G X (i := 0) (v := (.int (cc 0))) AC rfl (by decide) rfl d2_35 (pc' := 36) rfl ?_
        refine k_castore G X (i := 0) (z := (cc 0)) A_b29 rfl (by decide) (nar_char (hcc 0 (by decide)).1 (hcc 0 (by decide)).2.1) ge_b29 (List.mem_of_getElem? (i := 0) rfl) d2_36 (pc' := 37) rfl (fun T h36 W36 A_b29 X => ?_)
        replace O := O.wr W36 ge_b29
        replace KP := KP.wr W36 (Or.inr sz_b29)
        replace S_CS := S_CS.wr W36
        replace AC := AC.other W36 ne_a_b29
        replace X_b24 := X_b24.wr W36
        replace F_b24_value := F_b24_value.other W36 (Or.inl ne_b24_b29)
        replace F_b24_coder := F_b24_coder.other W36 (Or.inl ne_b24_b29)
        refine k_dup G X d2_37 (pc' := 38) rfl rfl ?_
        refine k_iconst G X d2_38 (pc' := 39) rfl (z := (1 : Int32)) (by decide) ?_
        refine k_aloadN G X d2_39 (pc' := 40) rfl rfl rfl ?_
        refine k_iconst G X d2_40 (pc' := 41) rfl (z := (1 : Int32)) (by decide) ?_
        refine k_caload G X (i := 1) (v := (.int (cc 1))) AC rfl (by decide) rfl d2_41 (pc' := 42) rfl ?_
        refine k_castore G X (i := 1) (z := (cc 1)) A_b29 rfl (by decide) (nar_char (hcc 1 (by decide)).1 (hcc 1 (by decide)).2.1) ge_b29 (List.mem_of_getElem? (i := 0) rfl) d2_42 (pc' := 43) rfl (fun T h42 W42 A_b29 X => ?_)
        replace O := O.wr W42 ge_b29
        replace KP := KP.wr W42 (Or.inr sz_b29)
        replace S_CS := S_CS.wr W42
        replace AC := AC.other W42 ne_a_b29
        replace X_b24 := X_b24.wr W42
        replace F_b24_value := F_b24_value.other W42 (Or.inl ne_b24_b29)
        replace F_b24_coder := F_b24_coder.other W42 (Or.inl ne_b24_b29)
        refine k_callI G X (argsL := [(.ref b29)]) (rest := [(.ref b24)]) rfl rfl (w65 hw) (w66 hw) (w10 hw) (w67 hw) (by decide) (str_init hw b24 b29 k29 2 (2 : Int32) cs cc h42 n0 _ rfl (by decide) (by decide) X_b24 F_b24_value F_b24_coder (A_b29.congr fun i hi => by rcases (by omega : i = 0 ∨ i = 1) with rfl | rfl <;> rfl) ne_b24_b29 ⟨ge_b24, (List.mem_of_getElem? (i := 1) rfl)⟩ O S_CS hcs (fun i hi => ⟨(hcc i (by omega)).1, (hcc i (by omega)).2.1⟩)) d2_43 pd16 rfl (pc' := 46) rfl rfl (wd := 1) rfl (by decide) (by decide) (by decide) (by decide) (fun T h43 v sf43 X q => ?_)
        replace X := W.drop X
        obtain ⟨rfl, K43, bb, kb, sz_bb, SS2⟩ := q
        replace S_CS := Sta_keepL S_CS K43 (allS (Pln_exa X_b24) (all0))
        replace O := O.keep K43 (allS ge_b24 (all0))
        replace KP := KP.trans K43 (allS (Or.inr sz_b24) (all0))
        replace AC := AC.keep K43 (by simp only [List.mem_cons, List.not_mem_nil, or_false, not_or]; exact ne_a_b24)
        replace X_b24 := X_b24.keep K43
        replace A_b29 := A_b29.keep K43 (by simp only [List.mem_cons, List.not_mem_nil, or_false, not_or]; exact (Ne.symm ne_b24_b29))
        show Go Γ n0 _ T (mkF Γ.m 46 #[.val (.ref a), .val (.int zn)] [(.ref b24)])
        refine k_reta G X d2_46 (t := (.object "java/lang/String")) rfl rfl rfl ?_ (by decide) (by decide)
        obtain rfl : n = 2 := by have := congrArg Int32.toInt c21; rw [show (2 : Int32).toInt = 2 from rfl] at this; omega
        exact ⟨b24, bb, kb, rfl, KP, SS2⟩
    · refine k_aloadN G X d2_12 (pc' := 13) rfl rfl rfl ?_
      refine k_iconst G X d2_13 (pc' := 14) rfl (z := (0 : Int32)) (by decide) ?_
      refine k_caload G X (i := 0) (v := (.int (cc 0))) AC rfl (by decide) rfl d2_14 (pc' := 15) rfl ?_
      refine k_callS G X (argsL := [(.int (cc 0))]) (rest := []) rfl (w48 hw) (w49 hw) (w10 hw) (w50 hw) (by decide) (sv hw (cc 0) cs h0 n0 _ (hcc 0 (by decide)).2.1 O S_CS hcs) d2_15 pd17 rfl (pc' := 18) rfl rfl (wd := 0) rfl (by decide) (by decide) (by decide) (by decide) (fun T h15 v sf15 X q => ?_)
      replace X := W.drop X
      obtain ⟨s1, b1, k1, rfl, sz_s1, sz_b1, K15, SS1⟩ := q
      replace S_CS := Jvm.OwnK.Sta_keep S_CS K15
      replace O := O.keep K15 (all0)
      replace KP := KP.trans K15 (all0)
      replace AC := AC.keep K15 nin0
      show Go Γ n0 _ T (mkF Γ.m 18 #[.val (.ref a), .val (.int zn)] [(.ref s1)])
      refine k_reta G X d2_18 (t := (.object "java/lang/String")) rfl rfl rfl ?_ (by decide) (by decide)
      obtain rfl : n = 1 := by have := congrArg Int32.toInt c9; rw [show (1 : Int32).toInt = 1 from rfl] at this; omega
      exact ⟨s1, b1, k1, rfl, KP, SS1.1, SS1.2.1, SS1.2.2.1, SS1.2.2.2.congr fun i hi => by rw [show i = 0 by omega]⟩
  · refine k_ldcH G X (n := 0) (vs := ([] : List Int32)) (z := 0) (w9 hw) (strAtoms hw) (by decide) ⟨by decide, by decide⟩ (by decide) d2_4 (pc' := 6) rfl (by decide) (by decide) (by decide) (by decide) (fun T h4 sE sEd k4 E4 Xs Fc Fv Fa hne4 X => ?_)
    replace O := O.ext E4
    replace KP := KP.ext E4
    replace S_CS := S_CS.ext E4
    replace AC := AC.ext E4
    have SE0 : Str Z h4 sE sEd k4 0 (fun i => ([] : List Int32).getD i 0) := ⟨Xs, Fc, Fv, Fa⟩
    have X_sE := Xs
    refine k_reta G X d2_6 (t := (.object "java/lang/String")) rfl rfl rfl ?_ (by decide) (by decide)
    obtain rfl : n = 0 := by have := congrArg Int32.toInt c1; rw [z32] at this; omega
    exact ⟨sE, sEd, k4, rfl, KP, SE0.1, SE0.2.1, SE0.2.2.1, SE0.2.2.2.congr fun i hi => absurd hi (Nat.not_lt_zero _)⟩
theorem pn_3 : plainFor (⟨"com/example/libinvariant/libinvariant/aiger/LineFields", "<init>", "(Ljava/lang/String;I)V"⟩ : MethodName) = true := plainFor_of_name (by first | (simp [plainName, overriddenIn]; done) | decide +kernel)
set_option maxRecDepth 65536 in
set_option maxHeartbeats 40000000 in
theorem lf_init {Z : State} {a0 : Array Value} (hw : HW a0 Z) (lf s : Addr) (zo : Int32) (h0 : Heap) (n0 : Nat) (sf0 : List Addr) (gm_lf : n0 ≤ lf ∧ lf ∈ sf0) (E : Exa Z h0 lf "com/example/libinvariant/libinvariant/aiger/LineFields") (FL : Fld Z h0 lf "com/example/libinvariant/libinvariant/aiger/LineFields" "line" "Ljava/lang/String;" .null) (FS_ : Fld Z h0 lf "com/example/libinvariant/libinvariant/aiger/LineFields" "space" "I" (.int (0 : Int32))) :
    MetW Z consts_1 sf0 (⟨"com/example/libinvariant/libinvariant/aiger/LineFields", "<init>", "(Ljava/lang/String;I)V"⟩ : MethodName) prog_13_method_1_code 3 none [] ({ frames := 1, cells := 0, slots := 0, locals := 12 } : Room) #[(.ref lf), (.ref s), (.int zo)] h0 n0 (fun v h sf => v = none ∧ Keep h0 h [lf] ∧ Exa Z h lf "com/example/libinvariant/libinvariant/aiger/LineFields" ∧ Fld Z h lf "com/example/libinvariant/libinvariant/aiger/LineFields" "line" "Ljava/lang/String;" (.ref s) ∧ Fld Z h lf "com/example/libinvariant/libinvariant/aiger/LineFields" "space" "I" (.int (zo - (1 : Int32)))) := by
  refine k_body (hEW hw) (f := (fun m => mkF m 0 #[.val (.ref lf), .val (.ref s), .val (.int zo)] [])) pn_3 (fun m => by first | (simp [entryFrame, mkF, argsToLocals, Value.category, maxLocals]; done) | rfl) ?_
  intro Γ T G X
  have ge_lf := gm_lf.1
  have KP := Keep.refl h0 [lf]
  show Go Γ n0 _ T (mkF Γ.m 0 #[.val (.ref lf), .val (.ref s), .val (.int zo)] [])
  refine k_aloadN G X d3_0 (pc' := 1) rfl rfl rfl ?_
  refine k_initO G X (w23 hw) (w24 hw) (w25 hw) d3_1 (pc' := 4) rfl rfl (by decide) (wd := 0) rfl (by decide) (fun T X => ?_)
  refine k_aloadN G X d3_4 (pc' := 5) rfl rfl rfl ?_
  refine k_aloadN G X d3_5 (pc' := 6) rfl rfl rfl ?_
  refine k_putF G X (host := "") (Or.inl (w26 hw)) Via.refl FL E (Or.inr ⟨(w27 hw), rfl, rfl⟩) (w18 hw) (ty := (.object "java/lang/String")) (by decide) rfl rfl ge_lf (List.mem_append_right [] gm_lf.2) d3_6 (pc' := 9) rfl (fun T h6 W6 X => ?_)
  replace E := E.wr W6
  replace FL := FL.same W6
  replace FS_ := FS_.other W6 (Or.inr (slot_ne (Or.inl (w29 hw)) (Or.inr (w27 hw)) (by decide) (t := .int) (t' := (.object "java/lang/String")) (by decide) (by decide)))
  replace KP := KP.wr W6 (Or.inl (List.mem_of_getElem? (i := 0) rfl))
  refine k_aloadN G X d3_9 (pc' := 10) rfl rfl rfl ?_
  refine k_iloadN G X d3_10 (pc' := 11) rfl rfl ?_
  refine k_iconst G X d3_11 (pc' := 12) rfl (z := (1 : Int32)) (by decide) ?_
  refine k_isub G X d3_12 (pc' := 13) rfl rfl ?_
  refine k_putF G X (host := "") (Or.inl (w28 hw)) Via.refl FS_ E (Or.inl (w29 hw)) (w18 hw) (ty := .int) (by decide) rfl rfl ge_lf (List.mem_append_right [] gm_lf.2) d3_13 (pc' := 16) rfl (fun T h13 W13 X => ?_)
  replace E := E.wr W13
  replace FL := FL.other W13 (Or.inr (slot_ne (Or.inr (w27 hw)) (Or.inl (w29 hw)) (by decide) (t := (.object "java/lang/String")) (t' := .int) (by decide) (by decide)))
  replace FS_ := FS_.same W13
  replace KP := KP.wr W13 (Or.inl (List.mem_of_getElem? (i := 0) rfl))
  refine k_retv G X d3_16 rfl ?_ (by decide) (by decide)
  exact ⟨rfl, KP, E, FL, FS_⟩
theorem pn_17 : plainFor (⟨"com/example/libinvariant/libinvariant/aiger/LineFields", "next", "(Ljava/lang/String;)I"⟩ : MethodName) = true := plainFor_of_name (by first | (simp [plainName, overriddenIn]; done) | decide +kernel)
set_option maxRecDepth 65536 in
set_option maxHeartbeats 40000000 in
theorem lf_next {Z : State} {a0 : Array Value} (hw : HW a0 Z) (lf s b fl : Addr) (kb : ClassId) (w zo zn cs : Int32) (fm : Value) (cc : Nat → Int32) (o n : Nat) (h0 : Heap) (n0 : Nat) (sf0 : List Addr) (gm_lf : n0 ≤ lf ∧ lf ∈ sf0) (E : Exa Z h0 lf "com/example/libinvariant/libinvariant/aiger/LineFields") (FL : Fld Z h0 lf "com/example/libinvariant/libinvariant/aiger/LineFields" "line" "Ljava/lang/String;" (.ref s)) (FS_ : Fld Z h0 lf "com/example/libinvariant/libinvariant/aiger/LineFields" "space" "I" (.int w)) (SS : Str Z h0 s b kb n (fun i => (cc i).toInt8.toInt32)) (ne_s_lf : s ≠ lf) (ne_b_lf : b ≠ lf) (S_CS : Sta Z h0 "java/lang/String" "COMPACT_STRINGS" "Z" (.int cs)) (hcs : cs ≠ 0) (S_FM : Sta Z h0 "jdk/internal/util/Preconditions" "SIOOBE_FORMATTER" "Ljava/util/function/BiFunction;" fm) (hfm : fm.isRef = true) (ho : zo.toInt = o) (hon : o < n) (hn : zn.toInt = n) (hn5 : n ≤ 5) (hcc : ∀ i, i < 5 → 0 ≤ (cc i).toInt ∧ (cc i).toInt ≤ 255 ∧ ((cc i).toInt = 32 ∨ (48 ≤ (cc i).toInt ∧ (cc i).toInt ≤ 57))) (hw1 : w + (1 : Int32) = zo) (hf0 : (cc o).toInt ≠ 32) :
    MetW Z consts_1 sf0 (⟨"com/example/libinvariant/libinvariant/aiger/LineFields", "next", "(Ljava/lang/String;)I"⟩ : MethodName) prog_13_method_3_code 8 (some .int) [] ({ frames := 4, cells := 0, slots := 0, locals := 53 } : Room) #[(.ref lf), (.ref fl)] h0 n0 (fun v h sf => ∃ (r sp : Int32) (E_ : Nat), v = some (.int r) ∧ Keep h0 h [lf] ∧ FS cc n o E_ ∧ sp.toInt = E_ ∧ Exa Z h lf "com/example/libinvariant/libinvariant/aiger/LineFields" ∧ Fld Z h lf "com/example/libinvariant/libinvariant/aiger/LineFields" "line" "Ljava/lang/String;" (.ref s) ∧ Fld Z h lf "com/example/libinvariant/libinvariant/aiger/LineFields" "space" "I" (.int sp) ∧ Str Z h s b kb n (fun i => (cc i).toInt8.toInt32)) := by
  refine k_body (hEW hw) (f := (fun m => mkF m 0 #[.val (.ref lf), .val (.ref fl), .unset, .unset, .unset, .unset, .unset, .unset] [])) pn_17 (fun m => by first | (simp [entryFrame, mkF, argsToLocals, Value.category, maxLocals]; done) | rfl) ?_
  intro Γ T G X
  have ge_lf := gm_lf.1
  have KP := Keep.refl h0 [lf]
  have SE := SS.1
  have hb : ∀ j, j < n → (cc j).toInt = 32 → (cc j).toInt8.toInt32 = (32 : Int32) := fun j _ q => of_toInt (by have := c_i2b (cc j); rw [show (32 : Int32).toInt = 32 from rfl]; omega)
  have hb' : ∀ j, j < n → (cc j).toInt8.toInt32 = (32 : Int32) → (cc j).toInt = 32 := fun j hj q => by have := c_i2b (cc j); have := hcc j (by omega); rw [q, show (32 : Int32).toInt = 32 from rfl] at *; omega
  show Go Γ n0 _ T (mkF Γ.m 0 #[.val (.ref lf), .val (.ref fl), .unset, .unset, .unset, .unset, .unset, .unset] [])
  refine k_aloadN G X d17_0 (pc' := 1) rfl rfl rfl ?_
  refine k_getF G X (host := "") (Or.inl (w28 hw)) Via.refl FS_ d17_1 (pc' := 4) rfl (fun T X => ?_)
  refine k_iconst G X d17_4 (pc' := 5) rfl (z := (1 : Int32)) (by decide) ?_
  refine k_iadd G X d17_5 (pc' := 6) rfl rfl ?_
  rw [hw1]
  refine k_istoreN G X d17_6 (pc' := 7) rfl (l' := #[.val (.ref lf), .val (.ref fl), .val (.int zo), .unset, .unset, .unset, .unset, .unset]) rfl ?_
  refine k_aloadN G X d17_7 (pc' := 8) rfl rfl rfl ?_
  refine k_getF G X (host := "") (Or.inl (w26 hw)) Via.refl FL d17_8 (pc' := 11) rfl (fun T X => ?_)
  refine k_bipush G X d17_11 (pc' := 13) rfl (z := (32 : Int32)) (by decide) ?_
  refine k_iloadN G X d17_13 (pc' := 14) rfl rfl ?_
  refine k_callV G X (argsL := [(.int (32 : Int32)), (.int zo)]) (rest := []) rfl SE (w87 hw) (w88 hw) (nf_sel (w90 hw)) (w90 hw) (w89 hw) (w10 hw) (w91 hw) (by decide) (str_ix hw s b kb n o zn zo (32 : Int32) cs _ h0 n0 _ SS hn S_CS hcs ho hon (by decide) (by decide)) d17_14 pd6 rfl (pc' := 17) rfl rfl (wd := 0) rfl (by decide) (by decide) (by decide) (by decide) (fun T h14 v sf14 X q => ?_)
  replace X := W.drop X
  obtain ⟨e, rfl, e14, he⟩ := q
  replace X := X.eq e14
  obtain ⟨E_, hF, he1, he2⟩ : ∃ E_ : Nat, FS cc n o E_ ∧ (0 ≤ e.toInt → e.toInt = E_) ∧ (e.toInt < 0 → zn.toInt = E_) := by
    rcases he with ⟨j, hj, h1, h2, h3, h4⟩ | ⟨hj, h4⟩
    · exact ⟨j, ⟨h1, by omega, fun i q1 q2 q => h4 i q1 q2 (hb i (by omega) q), fun _ => hb' j h2 h3⟩, fun _ => hj, fun q => by omega⟩
    · exact ⟨n, ⟨by omega, Nat.le_refl _, fun i q1 q2 q => h4 i q1 q2 (hb i (by omega) q), fun q => absurd q (Nat.lt_irrefl _)⟩, fun q => by omega, fun _ => hn⟩
  show Go Γ n0 _ T (mkF Γ.m 17 #[.val (.ref lf), .val (.ref fl), .val (.int zo), .unset, .unset, .unset, .unset, .unset] [(.int e)])
  refine k_istoreN G X d17_17 (pc' := 18) rfl (l' := #[.val (.ref lf), .val (.ref fl), .val (.int zo), .val (.int e), .unset, .unset, .unset, .unset]) rfl ?_
  have J30 : ∀ (T : State) (e3 : Int32), (e3.toInt = E_) → W Γ n0 T h0 0 0 (sf0) → Go Γ n0 (fun v h sf => ∃ (r sp : Int32) (E_ : Nat), v = some (.int r) ∧ Keep h0 h [lf] ∧ FS cc n o E_ ∧ sp.toInt = E_ ∧ Exa Z h lf "com/example/libinvariant/libinvariant/aiger/LineFields" ∧ Fld Z h lf "com/example/libinvariant/libinvariant/aiger/LineFields" "line" "Ljava/lang/String;" (.ref s) ∧ Fld Z h lf "com/example/libinvariant/libinvariant/aiger/LineFields" "space" "I" (.int sp) ∧ Str Z h s b kb n (fun i => (cc i).toInt8.toInt32)) T (mkF Γ.m 30 #[.val (.ref lf), .val (.ref fl), .val (.int zo), .val (.int e3), .unset, .unset, .unset, .unset] []) := by
    intro T e3 he3 X
    refine k_aloadN G X d17_30 (pc' := 31) rfl rfl rfl ?_
    refine k_iloadN G X d17_31 (pc' := 32) rfl rfl ?_
    refine k_putF G X (host := "") (Or.inl (w28 hw)) Via.refl FS_ E (Or.inl (w29 hw)) (w18 hw) (ty := .int) (by decide) rfl rfl ge_lf (List.mem_append_right [] gm_lf.2) d17_32 (pc' := 35) rfl (fun T h32 W32 X => ?_)
    replace E := E.wr W32
    replace FL := FL.other W32 (Or.inr (slot_ne (Or.inr (w27 hw)) (Or.inl (w29 hw)) (by decide) (t := (.object "java/lang/String")) (t' := .int) (by decide) (by decide)))
    replace FS_ := FS_.same W32
    replace SS := SS.other W32 ne_s_lf ne_b_lf
    replace SE := SE.wr W32
    replace S_CS := S_CS.wr W32
    replace S_FM := S_FM.wr W32
    replace KP := KP.wr W32 (Or.inl (List.mem_of_getElem? (i := 0) rfl))
    refine k_iloadN G X d17_35 (pc' := 36) rfl rfl ?_
    refine k_iloadN G X d17_36 (pc' := 37) rfl rfl ?_
    refine k_icmp_ne G X d17_37 (pc' := 54) rfl (by decide) (pc'' := 40) rfl (fun c37 => ?_) (fun c37 => (absurd c37 (by intro q; rw [← q, ho] at he3; obtain rfl : o = E_ := (by omega); exact hf0 (hF.2.2.2 hon))))
    refine k_lconst G X d17_54 (pc' := 55) rfl (z := (0 : Int64)) (by decide) ?_
    refine k_lstore G X d17_55 (pc' := 57) rfl (l' := #[.val (.ref lf), .val (.ref fl), .val (.int zo), .val (.int e3), .val (.long (0 : Int64)), .second, .unset, .unset]) rfl ?_
    refine k_iloadN G X d17_57 (pc' := 58) rfl rfl ?_
    refine k_istore G X d17_58 (pc' := 60) rfl (l' := #[.val (.ref lf), .val (.ref fl), .val (.int zo), .val (.int e3), .val (.long (0 : Int64)), .second, .val (.int zo), .unset]) rfl ?_
    have LOOP : ∀ (k : Nat) (T : State) (va : Int64) (i : Int32) (s7 : Slot), ((s7 = .unset ∨ ∃ w, s7 = .val w ∧ w.category = 1)) → (o ≤ i.toInt.toNat ∧ 0 ≤ i.toInt) → (i.toInt.toNat ≤ E_) → (0 ≤ va.toInt ∧ va.toInt < (10 ^ (i.toInt.toNat - o) : Nat)) → E_ - i.toInt.toNat = k → W Γ n0 T h32 0 0 (sf0) → Go Γ n0 (fun v h sf => ∃ (r sp : Int32) (E_ : Nat), v = some (.int r) ∧ Keep h0 h [lf] ∧ FS cc n o E_ ∧ sp.toInt = E_ ∧ Exa Z h lf "com/example/libinvariant/libinvariant/aiger/LineFields" ∧ Fld Z h lf "com/example/libinvariant/libinvariant/aiger/LineFields" "line" "Ljava/lang/String;" (.ref s) ∧ Fld Z h lf "com/example/libinvariant/libinvariant/aiger/LineFields" "space" "I" (.int sp) ∧ Str Z h s b kb n (fun i => (cc i).toInt8.toInt32)) T (mkF Γ.m 60 #[.val (.ref lf), .val (.ref fl), .val (.int zo), .val (.int e3), .val (.long va), .second, .val (.int i), s7] []) := by
      intro k
      induction k using Nat.strongRecOn with
      | _ k ih =>
        intro T va i s7 h_s7 hi0 hin hva hk X
        refine k_iload G X d17_60 (pc' := 62) rfl rfl ?_
        refine k_iloadN G X d17_62 (pc' := 63) rfl rfl ?_
        refine k_icmp_ge G X d17_63 (pc' := 149) rfl (by decide) (pc'' := 66) rfl (fun c63 => ?_) (fun c63 => ?_)
        · refine k_lload G X d17_149 (pc' := 151) rfl rfl ?_
          refine k_l2i G X d17_151 (pc' := 152) rfl rfl ?_
          refine k_reti G X d17_152 rfl ?_ (by decide) (by decide)
          exact ⟨_, e3, E_, rfl, KP, hF, he3, E, FL, FS_, SS⟩
        · have hlt : i.toInt.toNat < E_ := by omega
          have hEn := hF.2.1
          have hi1 : (i + (1 : Int32)).toInt = i.toInt + 1 := iadd_toInt (by rw [show (1 : Int32).toInt = 1 from rfl]; omega) (by rw [show (1 : Int32).toInt = 1 from rfl]; omega)
          refine k_aloadN G X d17_66 (pc' := 67) rfl rfl rfl ?_
          refine k_getF G X (host := "") (Or.inl (w26 hw)) Via.refl FL d17_67 (pc' := 70) rfl (fun T X => ?_)
          refine k_iload G X d17_70 (pc' := 72) rfl rfl ?_
          refine k_callV G X (argsL := [(.int i)]) (rest := []) rfl SE (w114 hw) (w115 hw) (nf_sel (w117 hw)) (w117 hw) (w116 hw) (w10 hw) (w118 hw) (by decide) (str_at hw s b kb n (i.toInt.toNat) zn cs i _ fm h32 n0 _ SS hn S_CS hcs (by omega) (by omega) S_FM hfm) d17_72 pd18 rfl (pc' := 75) rfl rfl (wd := 0) rfl (by decide) (by decide) (by decide) (by decide) (fun T h72 v sf72 X q => ?_)
          replace X := W.drop X
          obtain ⟨d, rfl, hd_, e72⟩ := q
          replace X := X.eq e72
          have hci := hcc i.toInt.toNat (by omega)
          have hcn := hF.2.2.1 i.toInt.toNat (by omega) (by omega)
          rw [chr_byte hci.1 hci.2.1] at hd_
          show Go Γ n0 _ T (mkF Γ.m 75 #[.val (.ref lf), .val (.ref fl), .val (.int zo), .val (.int e3), .val (.long va), .second, .val (.int i), s7] [(.int d)])
          refine k_istoreS G X d17_75 (pc' := 77) rfl rfl h_s7 (l' := #[.val (.ref lf), .val (.ref fl), .val (.int zo), .val (.int e3), .val (.long va), .second, .val (.int i), .val (.int d)]) rfl ?_
          refine k_iload G X d17_77 (pc' := 79) rfl rfl ?_
          refine k_bipush G X d17_79 (pc' := 81) rfl (z := (48 : Int32)) (by decide) ?_
          refine k_icmp_lt G X d17_81 (pc' := 91) rfl (by decide) (pc'' := 84) rfl (fun c81 => (absurd c81 (by rw [show (48 : Int32).toInt = 48 from rfl]; omega))) (fun c81 => ?_)
          refine k_iload G X d17_84 (pc' := 86) rfl rfl ?_
          refine k_bipush G X d17_86 (pc' := 88) rfl (z := (57 : Int32)) (by decide) ?_
          refine k_icmp_le G X d17_88 (pc' := 105) rfl (by decide) (pc'' := 91) rfl (fun c88 => ?_) (fun c88 => (absurd c88 (by rw [show (57 : Int32).toInt = 57 from rfl]; omega)))
          refine k_lload G X d17_105 (pc' := 107) rfl rfl ?_
          refine k_ldcL G X (w130 hw) d17_107 (pc' := 110) rfl ?_
          refine k_lmul G X d17_110 (pc' := 111) rfl rfl ?_
          refine k_iload G X d17_111 (pc' := 113) rfl rfl ?_
          refine k_bipush G X d17_113 (pc' := 115) rfl (z := (48 : Int32)) (by decide) ?_
          refine k_isub G X d17_115 (pc' := 116) rfl rfl ?_
          refine k_i2l G X d17_116 (pc' := 117) rfl rfl ?_
          refine k_ladd G X d17_117 (pc' := 118) rfl rfl ?_
          have pk : 10 ^ (i.toInt.toNat - o) ≤ 10 ^ 4 := Nat.pow_le_pow_right (by decide) (by omega)
          have ps : 10 ^ ((i.toInt + 1).toNat - o) = 10 ^ (i.toInt.toNat - o) * 10 := by rw [show (i.toInt + 1).toNat - o = (i.toInt.toNat - o) + 1 by omega, Nat.pow_succ]
          have e48 : (48 : Int32).toInt = 48 := rfl
          have e10 : (10 : Int64).toInt = 10 := rfl
          have n1 : (d - (48 : Int32)).toInt = d.toInt - 48 := by rw [isub_toInt (by omega) (by omega), e48]
          have n2 : (va * (10 : Int64)).toInt = va.toInt * 10 := by rw [lmul_toInt (by rw [e10]; omega) (by rw [e10]; omega), e10]
          have n3 := c_i2l (d - (48 : Int32))
          have n4 : ((va * (10 : Int64)) + (d - (48 : Int32)).toInt64).toInt = va.toInt * 10 + (d.toInt - 48) := by rw [ladd_toInt (by rw [n2, n3, n1]; omega) (by rw [n2, n3, n1]; omega), n2, n3, n1]
          obtain ⟨nv, qnv⟩ : ∃ z, (va * (10 : Int64)) + (d - (48 : Int32)).toInt64 = z := ⟨_, rfl⟩
          rw [qnv] at n4 ⊢
          have hnv : 0 ≤ nv.toInt ∧ nv.toInt < (10 ^ ((i + (1 : Int32)).toInt.toNat - o) : Nat) := by rw [hi1, ps]; omega
          refine k_lstore G X d17_118 (pc' := 120) rfl (l' := #[.val (.ref lf), .val (.ref fl), .val (.int zo), .val (.int e3), .val (.long nv), .second, .val (.int i), .val (.int d)]) rfl ?_
          refine k_lload G X d17_120 (pc' := 122) rfl rfl ?_
          refine k_ldcL G X (w131 hw) d17_122 (pc' := 125) rfl ?_
          refine k_lcmp G X d17_125 (pc' := 126) rfl rfl ?_
          refine k_if_le G X d17_126 (pc' := 143) rfl (by decide) (pc'' := 129) rfl (fun c126 => ?_) (fun c126 => (absurd c126 (by have := c_lcmp nv 2147483647; have e7 : (2147483647 : Int64).toInt = 2147483647 := rfl; have l1 := this.1; simp only [lcmpW] at l1; have := l1 (by rw [hi1, ps] at hnv; omega); omega)))
          refine k_iinc G X d17_143 (pc' := 146) rfl rfl (z := (i + (1 : Int32))) rfl (l' := #[.val (.ref lf), .val (.ref fl), .val (.int zo), .val (.int e3), .val (.long nv), .second, .val (.int (i + (1 : Int32))), .val (.int d)]) rfl ?_
          refine k_goto G X d17_146 (by decide) (pc' := 60) rfl ?_
          exact ih _ (by rw [hi1]; omega) T nv (i + (1 : Int32)) (.val (.int d)) (Or.inr ⟨_, rfl, rfl⟩) (by omega) (by omega) hnv rfl X
    exact LOOP _ T (0 : Int64) zo (.unset) (Or.inl rfl) (by omega) (by have := hF.1; omega) (by rw [show zo.toInt.toNat - o = 0 by omega]; decide) rfl X
  refine k_iloadN G X d17_18 (pc' := 19) rfl rfl ?_
  refine k_if_ge G X d17_19 (pc' := 30) rfl (by decide) (pc'' := 22) rfl (fun c19 => ?_) (fun c19 => ?_)
  · exact J30 T e (he1 c19) X
  · refine k_aloadN G X d17_22 (pc' := 23) rfl rfl rfl ?_
    refine k_getF G X (host := "") (Or.inl (w26 hw)) Via.refl FL d17_23 (pc' := 26) rfl (fun T X => ?_)
    refine k_callV G X (argsL := []) (rest := []) rfl SE (w35 hw) (w36 hw) (nf_sel (w38 hw)) (w38 hw) (w37 hw) (w10 hw) (w39 hw) (by decide) (str_len hw s b kb n zn cs (fun i => (cc i).toInt8.toInt32) h0 n0 _ SS hn S_CS hcs) d17_26 pd8 rfl (pc' := 29) rfl rfl (wd := 0) rfl (by decide) (by decide) (by decide) (by decide) (fun T h26 v sf26 X q => ?_)
    replace X := W.drop X
    obtain ⟨rfl, e26⟩ := q
    replace X := X.eq e26
    show Go Γ n0 _ T (mkF Γ.m 29 #[.val (.ref lf), .val (.ref fl), .val (.int zo), .val (.int e), .unset, .unset, .unset, .unset] [(.int zn)])
    refine k_istoreN G X d17_29 (pc' := 30) rfl (l' := #[.val (.ref lf), .val (.ref fl), .val (.int zo), .val (.int zn), .unset, .unset, .unset, .unset]) rfl ?_
    exact J30 T zn (he2 c19) X
theorem pn_5 : plainFor (⟨"com/example/libinvariant/libinvariant/aiger/LineFields", "hasNext", "()Z"⟩ : MethodName) = true := plainFor_of_name (by first | (simp [plainName, overriddenIn]; done) | decide +kernel)
set_option maxRecDepth 65536 in
set_option maxHeartbeats 40000000 in
theorem lf_has {Z : State} {a0 : Array Value} (hw : HW a0 Z) (lf s b : Addr) (kb : ClassId) (sp zn cs : Int32) (cc : Nat → Int32) (n : Nat) (h0 : Heap) (n0 : Nat) (sf0 : List Addr) (FL : Fld Z h0 lf "com/example/libinvariant/libinvariant/aiger/LineFields" "line" "Ljava/lang/String;" (.ref s)) (FS_ : Fld Z h0 lf "com/example/libinvariant/libinvariant/aiger/LineFields" "space" "I" (.int sp)) (SS : Str Z h0 s b kb n (fun i => (cc i).toInt8.toInt32)) (S_CS : Sta Z h0 "java/lang/String" "COMPACT_STRINGS" "Z" (.int cs)) (hcs : cs ≠ 0) (hn : zn.toInt = n) :
    MetW Z consts_1 sf0 (⟨"com/example/libinvariant/libinvariant/aiger/LineFields", "hasNext", "()Z"⟩ : MethodName) prog_13_method_2_code 1 (some .boolean) [] ({ frames := 2, cells := 0, slots := 0, locals := 26 } : Room) #[(.ref lf)] h0 n0 (fun v h sf => ∃ r : Int32, v = some (.int r) ∧ (sp.toInt < n → r = 1) ∧ (n ≤ sp.toInt → r = 0) ∧ h = h0) := by
  refine k_body (hEW hw) (f := (fun m => mkF m 0 #[.val (.ref lf)] [])) pn_5 (fun m => by first | (simp [entryFrame, mkF, argsToLocals, Value.category, maxLocals]; done) | rfl) ?_
  intro Γ T G X
  have SE := SS.1
  show Go Γ n0 _ T (mkF Γ.m 0 #[.val (.ref lf)] [])
  refine k_aloadN G X d5_0 (pc' := 1) rfl rfl rfl ?_
  refine k_getF G X (host := "") (Or.inl (w28 hw)) Via.refl FS_ d5_1 (pc' := 4) rfl (fun T X => ?_)
  refine k_aloadN G X d5_4 (pc' := 5) rfl rfl rfl ?_
  refine k_getF G X (host := "") (Or.inl (w26 hw)) Via.refl FL d5_5 (pc' := 8) rfl (fun T X => ?_)
  refine k_callV G X (argsL := []) (rest := [(.int sp)]) rfl SE (w35 hw) (w36 hw) (nf_sel (w38 hw)) (w38 hw) (w37 hw) (w10 hw) (w39 hw) (by decide) (str_len hw s b kb n zn cs (fun i => (cc i).toInt8.toInt32) h0 n0 _ SS hn S_CS hcs) d5_8 pd8 rfl (pc' := 11) rfl rfl (wd := 1) rfl (by decide) (by decide) (by decide) (by decide) (fun T h8 v sf8 X q => ?_)
  replace X := W.drop X
  obtain ⟨rfl, e8⟩ := q
  replace X := X.eq e8
  show Go Γ n0 _ T (mkF Γ.m 11 #[.val (.ref lf)] [(.int zn), (.int sp)])
  refine k_icmp_ge G X d5_11 (pc' := 18) rfl (by decide) (pc'' := 14) rfl (fun c11 => ?_) (fun c11 => ?_)
  · refine k_iconst G X d5_18 (pc' := 19) rfl (z := (0 : Int32)) (by decide) ?_
    refine k_retb G X d5_19 (t := .boolean) rfl (by simp) rfl ?_ (by decide) (by decide)
    exact ⟨_, rfl, by intros; first | rfl | omega, by intros; first | rfl | omega, rfl⟩
  · refine k_iconst G X d5_14 (pc' := 15) rfl (z := (1 : Int32)) (by decide) ?_
    refine k_goto G X d5_15 (by decide) (pc' := 19) rfl ?_
    refine k_retb G X d5_19 (t := .boolean) rfl (by simp) rfl ?_ (by decide) (by decide)
    exact ⟨_, rfl, by intros; first | rfl | omega, by intros; first | rfl | omega, rfl⟩
theorem pn_29 : plainFor (⟨"com/example/libinvariant/libinvariant/aiger/LineFieldsHasNextPinLaw", "firstSpace", "([CII)I"⟩ : MethodName) = true := plainFor_of_name (by first | (simp [plainName, overriddenIn]; done) | decide +kernel)
set_option maxRecDepth 65536 in
set_option maxHeartbeats 40000000 in
theorem fsp {Z : State} {a0 : Array Value} (hw : HW a0 Z) (a : Addr) (ka : ClassId) (zn zo : Int32) (n o : Nat) (cc : Nat → Int32) (h0 : Heap) (n0 : Nat) (sf0 : List Addr) (hn : zn.toInt = n) (ho : zo.toInt = o) (hon : o ≤ n) (hn5 : n ≤ 5) (AC : Arf Z h0 a ka .char 5 (fun i => .int (cc i))) :
    MetW Z consts_1 sf0 (⟨"com/example/libinvariant/libinvariant/aiger/LineFieldsHasNextPinLaw", "firstSpace", "([CII)I"⟩ : MethodName) method_4_code 3 (some .int) [] ({ frames := 0, cells := 0, slots := 0, locals := 0 } : Room) #[(.ref a), (.int zn), (.int zo)] h0 n0 (fun v h sf => ∃ (r : Int32) (e : Nat), v = some (.int r) ∧ r.toInt = e ∧ FS cc n o e ∧ h = h0) := by
  refine k_body (hEW hw) (f := (fun m => mkF m 0 #[.val (.ref a), .val (.int zn), .val (.int zo)] [])) pn_29 (fun m => by first | (simp [entryFrame, mkF, argsToLocals, Value.category, maxLocals]; done) | rfl) ?_
  intro Γ T G X
  have e0 : (0 : Int32).toInt = 0 := rfl
  have e1 : (1 : Int32).toInt = 1 := rfl
  have e2 : (2 : Int32).toInt = 2 := rfl
  have e3 : (3 : Int32).toInt = 3 := rfl
  have e4 : (4 : Int32).toInt = 4 := rfl
  show Go Γ n0 _ T (mkF Γ.m 0 #[.val (.ref a), .val (.int zn), .val (.int zo)] [])
  have JJ5 : ∀ (T : State), (∀ i, o ≤ i → i < 5 → i < n → (cc i).toInt ≠ 32) → W Γ n0 T h0 0 0 (sf0) → Go Γ n0 (fun v h sf => ∃ (r : Int32) (e : Nat), v = some (.int r) ∧ r.toInt = e ∧ FS cc n o e ∧ h = h0) T (mkF Γ.m 99 #[.val (.ref a), .val (.int zn), .val (.int zo)] []) := by
    intro T hs5 X
    refine k_iloadN G X d29_99 (pc' := 100) rfl rfl ?_
    refine k_reti G X d29_100 rfl ?_ (by decide) (by decide)
    exact ⟨_, n, rfl, hn, ⟨hon, Nat.le_refl _, fun i h1 h2 => hs5 i h1 (by omega) h2, fun q => absurd q (Nat.lt_irrefl _)⟩, rfl⟩
  have JJ4 : ∀ (T : State), (∀ i, o ≤ i → i < 4 → i < n → (cc i).toInt ≠ 32) → W Γ n0 T h0 0 0 (sf0) → Go Γ n0 (fun v h sf => ∃ (r : Int32) (e : Nat), v = some (.int r) ∧ r.toInt = e ∧ FS cc n o e ∧ h = h0) T (mkF Γ.m 79 #[.val (.ref a), .val (.int zn), .val (.int zo)] []) := by
    intro T hs4 X
    refine k_iloadN G X d29_79 (pc' := 80) rfl rfl ?_
    refine k_iconst G X d29_80 (pc' := 81) rfl (z := (4 : Int32)) (by decide) ?_
    refine k_icmp_gt G X d29_81 (pc' := 99) rfl (by decide) (pc'' := 84) rfl (fun c81 => ?_) (fun c81 => ?_)
    · exact JJ5 T  (fun i h1 h2 h3 => by rcases Nat.lt_or_ge i 4 with q | q; exact (hs4 i h1 (by omega) h3); obtain rfl : i = 4 := (by omega); first | (exfalso; omega) | exact fun q => c94 (of_toInt (by rw [q]; rfl))) X
    · refine k_iconst G X d29_84 (pc' := 85) rfl (z := (4 : Int32)) (by decide) ?_
      refine k_iloadN G X d29_85 (pc' := 86) rfl rfl ?_
      refine k_icmp_ge G X d29_86 (pc' := 99) rfl (by decide) (pc'' := 89) rfl (fun c86 => ?_) (fun c86 => ?_)
      · exact JJ5 T  (fun i h1 h2 h3 => by rcases Nat.lt_or_ge i 4 with q | q; exact (hs4 i h1 (by omega) h3); obtain rfl : i = 4 := (by omega); first | (exfalso; omega) | exact fun q => c94 (of_toInt (by rw [q]; rfl))) X
      · refine k_aloadN G X d29_89 (pc' := 90) rfl rfl rfl ?_
        refine k_iconst G X d29_90 (pc' := 91) rfl (z := (4 : Int32)) (by decide) ?_
        refine k_caload G X (i := 4) (v := (.int (cc 4))) AC rfl (by decide) rfl d29_91 (pc' := 92) rfl ?_
        refine k_bipush G X d29_92 (pc' := 94) rfl (z := (32 : Int32)) (by decide) ?_
        refine k_icmp_ne G X d29_94 (pc' := 99) rfl (by decide) (pc'' := 97) rfl (fun c94 => ?_) (fun c94 => ?_)
        · exact JJ5 T  (fun i h1 h2 h3 => by rcases Nat.lt_or_ge i 4 with q | q; exact (hs4 i h1 (by omega) h3); obtain rfl : i = 4 := (by omega); first | (exfalso; omega) | exact fun q => c94 (of_toInt (by rw [q]; rfl))) X
        · refine k_iconst G X d29_97 (pc' := 98) rfl (z := (4 : Int32)) (by decide) ?_
          refine k_reti G X d29_98 rfl ?_ (by decide) (by decide)
          exact ⟨_, 4, rfl, rfl, ⟨by omega, by omega, fun i h1 h2 => hs4 i h1 h2 (by omega), fun _ => by rw [c94]; rfl⟩, rfl⟩
  have JJ3 : ∀ (T : State), (∀ i, o ≤ i → i < 3 → i < n → (cc i).toInt ≠ 32) → W Γ n0 T h0 0 0 (sf0) → Go Γ n0 (fun v h sf => ∃ (r : Int32) (e : Nat), v = some (.int r) ∧ r.toInt = e ∧ FS cc n o e ∧ h = h0) T (mkF Γ.m 59 #[.val (.ref a), .val (.int zn), .val (.int zo)] []) := by
    intro T hs3 X
    refine k_iloadN G X d29_59 (pc' := 60) rfl rfl ?_
    refine k_iconst G X d29_60 (pc' := 61) rfl (z := (3 : Int32)) (by decide) ?_
    refine k_icmp_gt G X d29_61 (pc' := 79) rfl (by decide) (pc'' := 64) rfl (fun c61 => ?_) (fun c61 => ?_)
    · exact JJ4 T  (fun i h1 h2 h3 => by rcases Nat.lt_or_ge i 3 with q | q; exact (hs3 i h1 (by omega) h3); obtain rfl : i = 3 := (by omega); first | (exfalso; omega) | exact fun q => c74 (of_toInt (by rw [q]; rfl))) X
    · refine k_iconst G X d29_64 (pc' := 65) rfl (z := (3 : Int32)) (by decide) ?_
      refine k_iloadN G X d29_65 (pc' := 66) rfl rfl ?_
      refine k_icmp_ge G X d29_66 (pc' := 79) rfl (by decide) (pc'' := 69) rfl (fun c66 => ?_) (fun c66 => ?_)
      · exact JJ4 T  (fun i h1 h2 h3 => by rcases Nat.lt_or_ge i 3 with q | q; exact (hs3 i h1 (by omega) h3); obtain rfl : i = 3 := (by omega); first | (exfalso; omega) | exact fun q => c74 (of_toInt (by rw [q]; rfl))) X
      · refine k_aloadN G X d29_69 (pc' := 70) rfl rfl rfl ?_
        refine k_iconst G X d29_70 (pc' := 71) rfl (z := (3 : Int32)) (by decide) ?_
        refine k_caload G X (i := 3) (v := (.int (cc 3))) AC rfl (by decide) rfl d29_71 (pc' := 72) rfl ?_
        refine k_bipush G X d29_72 (pc' := 74) rfl (z := (32 : Int32)) (by decide) ?_
        refine k_icmp_ne G X d29_74 (pc' := 79) rfl (by decide) (pc'' := 77) rfl (fun c74 => ?_) (fun c74 => ?_)
        · exact JJ4 T  (fun i h1 h2 h3 => by rcases Nat.lt_or_ge i 3 with q | q; exact (hs3 i h1 (by omega) h3); obtain rfl : i = 3 := (by omega); first | (exfalso; omega) | exact fun q => c74 (of_toInt (by rw [q]; rfl))) X
        · refine k_iconst G X d29_77 (pc' := 78) rfl (z := (3 : Int32)) (by decide) ?_
          refine k_reti G X d29_78 rfl ?_ (by decide) (by decide)
          exact ⟨_, 3, rfl, rfl, ⟨by omega, by omega, fun i h1 h2 => hs3 i h1 h2 (by omega), fun _ => by rw [c74]; rfl⟩, rfl⟩
  have JJ2 : ∀ (T : State), (∀ i, o ≤ i → i < 2 → i < n → (cc i).toInt ≠ 32) → W Γ n0 T h0 0 0 (sf0) → Go Γ n0 (fun v h sf => ∃ (r : Int32) (e : Nat), v = some (.int r) ∧ r.toInt = e ∧ FS cc n o e ∧ h = h0) T (mkF Γ.m 39 #[.val (.ref a), .val (.int zn), .val (.int zo)] []) := by
    intro T hs2 X
    refine k_iloadN G X d29_39 (pc' := 40) rfl rfl ?_
    refine k_iconst G X d29_40 (pc' := 41) rfl (z := (2 : Int32)) (by decide) ?_
    refine k_icmp_gt G X d29_41 (pc' := 59) rfl (by decide) (pc'' := 44) rfl (fun c41 => ?_) (fun c41 => ?_)
    · exact JJ3 T  (fun i h1 h2 h3 => by rcases Nat.lt_or_ge i 2 with q | q; exact (hs2 i h1 (by omega) h3); obtain rfl : i = 2 := (by omega); first | (exfalso; omega) | exact fun q => c54 (of_toInt (by rw [q]; rfl))) X
    · refine k_iconst G X d29_44 (pc' := 45) rfl (z := (2 : Int32)) (by decide) ?_
      refine k_iloadN G X d29_45 (pc' := 46) rfl rfl ?_
      refine k_icmp_ge G X d29_46 (pc' := 59) rfl (by decide) (pc'' := 49) rfl (fun c46 => ?_) (fun c46 => ?_)
      · exact JJ3 T  (fun i h1 h2 h3 => by rcases Nat.lt_or_ge i 2 with q | q; exact (hs2 i h1 (by omega) h3); obtain rfl : i = 2 := (by omega); first | (exfalso; omega) | exact fun q => c54 (of_toInt (by rw [q]; rfl))) X
      · refine k_aloadN G X d29_49 (pc' := 50) rfl rfl rfl ?_
        refine k_iconst G X d29_50 (pc' := 51) rfl (z := (2 : Int32)) (by decide) ?_
        refine k_caload G X (i := 2) (v := (.int (cc 2))) AC rfl (by decide) rfl d29_51 (pc' := 52) rfl ?_
        refine k_bipush G X d29_52 (pc' := 54) rfl (z := (32 : Int32)) (by decide) ?_
        refine k_icmp_ne G X d29_54 (pc' := 59) rfl (by decide) (pc'' := 57) rfl (fun c54 => ?_) (fun c54 => ?_)
        · exact JJ3 T  (fun i h1 h2 h3 => by rcases Nat.lt_or_ge i 2 with q | q; exact (hs2 i h1 (by omega) h3); obtain rfl : i = 2 := (by omega); first | (exfalso; omega) | exact fun q => c54 (of_toInt (by rw [q]; rfl))) X
        · refine k_iconst G X d29_57 (pc' := 58) rfl (z := (2 : Int32)) (by decide) ?_
          refine k_reti G X d29_58 rfl ?_ (by decide) (by decide)
          exact ⟨_, 2, rfl, rfl, ⟨by omega, by omega, fun i h1 h2 => hs2 i h1 h2 (by omega), fun _ => by rw [c54]; rfl⟩, rfl⟩
  have JJ1 : ∀ (T : State), (∀ i, o ≤ i → i < 1 → i < n → (cc i).toInt ≠ 32) → W Γ n0 T h0 0 0 (sf0) → Go Γ n0 (fun v h sf => ∃ (r : Int32) (e : Nat), v = some (.int r) ∧ r.toInt = e ∧ FS cc n o e ∧ h = h0) T (mkF Γ.m 19 #[.val (.ref a), .val (.int zn), .val (.int zo)] []) := by
    intro T hs1 X
    refine k_iloadN G X d29_19 (pc' := 20) rfl rfl ?_
    refine k_iconst G X d29_20 (pc' := 21) rfl (z := (1 : Int32)) (by decide) ?_
    refine k_icmp_gt G X d29_21 (pc' := 39) rfl (by decide) (pc'' := 24) rfl (fun c21 => ?_) (fun c21 => ?_)
    · exact JJ2 T  (fun i h1 h2 h3 => by rcases Nat.lt_or_ge i 1 with q | q; exact (hs1 i h1 (by omega) h3); obtain rfl : i = 1 := (by omega); first | (exfalso; omega) | exact fun q => c34 (of_toInt (by rw [q]; rfl))) X
    · refine k_iconst G X d29_24 (pc' := 25) rfl (z := (1 : Int32)) (by decide) ?_
      refine k_iloadN G X d29_25 (pc' := 26) rfl rfl ?_
      refine k_icmp_ge G X d29_26 (pc' := 39) rfl (by decide) (pc'' := 29) rfl (fun c26 => ?_) (fun c26 => ?_)
      · exact JJ2 T  (fun i h1 h2 h3 => by rcases Nat.lt_or_ge i 1 with q | q; exact (hs1 i h1 (by omega) h3); obtain rfl : i = 1 := (by omega); first | (exfalso; omega) | exact fun q => c34 (of_toInt (by rw [q]; rfl))) X
      · refine k_aloadN G X d29_29 (pc' := 30) rfl rfl rfl ?_
        refine k_iconst G X d29_30 (pc' := 31) rfl (z := (1 : Int32)) (by decide) ?_
        refine k_caload G X (i := 1) (v := (.int (cc 1))) AC rfl (by decide) rfl d29_31 (pc' := 32) rfl ?_
        refine k_bipush G X d29_32 (pc' := 34) rfl (z := (32 : Int32)) (by decide) ?_
        refine k_icmp_ne G X d29_34 (pc' := 39) rfl (by decide) (pc'' := 37) rfl (fun c34 => ?_) (fun c34 => ?_)
        · exact JJ2 T  (fun i h1 h2 h3 => by rcases Nat.lt_or_ge i 1 with q | q; exact (hs1 i h1 (by omega) h3); obtain rfl : i = 1 := (by omega); first | (exfalso; omega) | exact fun q => c34 (of_toInt (by rw [q]; rfl))) X
        · refine k_iconst G X d29_37 (pc' := 38) rfl (z := (1 : Int32)) (by decide) ?_
          refine k_reti G X d29_38 rfl ?_ (by decide) (by decide)
          exact ⟨_, 1, rfl, rfl, ⟨by omega, by omega, fun i h1 h2 => hs1 i h1 h2 (by omega), fun _ => by rw [c34]; rfl⟩, rfl⟩
  refine k_iloadN G X d29_0 (pc' := 1) rfl rfl ?_
  refine k_if_gt G X d29_1 (pc' := 19) rfl (by decide) (pc'' := 4) rfl (fun c1 => ?_) (fun c1 => ?_)
  · exact JJ1 T  (fun i h1 h2 h3 => by rcases Nat.lt_or_ge i 0 with q | q; exact absurd q (Nat.not_lt_zero _); obtain rfl : i = 0 := (by omega); first | (exfalso; omega) | exact fun q => c14 (of_toInt (by rw [q]; rfl))) X
  · refine k_iconst G X d29_4 (pc' := 5) rfl (z := (0 : Int32)) (by decide) ?_
    refine k_iloadN G X d29_5 (pc' := 6) rfl rfl ?_
    refine k_icmp_ge G X d29_6 (pc' := 19) rfl (by decide) (pc'' := 9) rfl (fun c6 => ?_) (fun c6 => ?_)
    · exact JJ1 T  (fun i h1 h2 h3 => by rcases Nat.lt_or_ge i 0 with q | q; exact absurd q (Nat.not_lt_zero _); obtain rfl : i = 0 := (by omega); first | (exfalso; omega) | exact fun q => c14 (of_toInt (by rw [q]; rfl))) X
    · refine k_aloadN G X d29_9 (pc' := 10) rfl rfl rfl ?_
      refine k_iconst G X d29_10 (pc' := 11) rfl (z := (0 : Int32)) (by decide) ?_
      refine k_caload G X (i := 0) (v := (.int (cc 0))) AC rfl (by decide) rfl d29_11 (pc' := 12) rfl ?_
      refine k_bipush G X d29_12 (pc' := 14) rfl (z := (32 : Int32)) (by decide) ?_
      refine k_icmp_ne G X d29_14 (pc' := 19) rfl (by decide) (pc'' := 17) rfl (fun c14 => ?_) (fun c14 => ?_)
      · exact JJ1 T  (fun i h1 h2 h3 => by rcases Nat.lt_or_ge i 0 with q | q; exact absurd q (Nat.not_lt_zero _); obtain rfl : i = 0 := (by omega); first | (exfalso; omega) | exact fun q => c14 (of_toInt (by rw [q]; rfl))) X
      · refine k_iconst G X d29_17 (pc' := 18) rfl (z := (0 : Int32)) (by decide) ?_
        refine k_reti G X d29_18 rfl ?_ (by decide) (by decide)
        exact ⟨_, 0, rfl, rfl, ⟨by omega, by omega, fun i h1 h2 => absurd h2 (Nat.not_lt_zero _), fun _ => by rw [c14]; rfl⟩, rfl⟩
theorem pn_0 : plainFor (⟨"com/example/libinvariant/libinvariant/aiger/LineFieldsHasNextPinLaw", "law", "(III)Z"⟩ : MethodName) = true := plainFor_of_name (by first | (simp [plainName, overriddenIn]; done) | decide +kernel)
set_option maxRecDepth 65536 in
set_option maxHeartbeats 40000000 in
theorem rm0 {Z : State} {a0 : Array Value} (hw : HW a0 Z) (p0 p1 p2 cs : Int32) (fm : Value) (h0 : Heap) (n0 : Nat) (O : Old Z n0 h0) (S_CS : Sta Z h0 "java/lang/String" "COMPACT_STRINGS" "Z" (.int cs)) (hcs : cs ≠ 0) (S_FM : Sta Z h0 "jdk/internal/util/Preconditions" "SIOOBE_FORMATTER" "Ljava/util/function/BiFunction;" fm) (hfm : fm.isRef = true) :
    MetW Z consts_1 [] x code maxLocals ret tables_1 room_1 #[(.int p0), (.int p1), (.int p2)] h0 n0 (fun v h sf => v = some (.int 1)) := by
  refine k_body (hEW hw) (f := (fun m => mkF m 0 #[.val (.int p0), .val (.int p1), .val (.int p2), .unset, .unset, .unset, .unset, .unset, .unset, .unset] [])) pn_0 (fun m => by first | (simp [entryFrame, mkF, argsToLocals, Value.category, maxLocals]; done) | rfl) ?_
  intro Γ T G X
  show Go Γ n0 _ T (mkF Γ.m 0 #[.val (.int p0), .val (.int p1), .val (.int p2), .unset, .unset, .unset, .unset, .unset, .unset, .unset] [])
  refine k_iloadN G X at_0 (pc' := 1) rfl rfl ?_
  refine k_ldcI G X (w0 hw) at_1 (pc' := 3) rfl ?_
  refine k_iand G X at_3 (pc' := 4) rfl rfl ?_
  refine k_bipush G X at_4 (pc' := 6) rfl (z := (6 : Int32)) (by decide) ?_
  refine k_irem G X at_6 (pc' := 7) rfl (by decide) rfl ?_
  obtain ⟨zn, q_zn⟩ : ∃ z, ((p0 &&& (2147483647 : Int32)) % (6 : Int32)) = z := ⟨_, rfl⟩
  have m_zn := rem_rng (p0 &&& (2147483647 : Int32)) (y := 6) 6 rfl (by decide) (and_rng _ 2147483647 rfl (by decide)).1
  rw [q_zn] at m_zn ⊢
  obtain ⟨n, h_zn⟩ : ∃ n : Nat, zn.toInt = n := ⟨zn.toInt.toNat, by omega⟩
  have hn := h_zn
  have hn5 : n ≤ 5 := by omega
  refine k_istoreN G X at_7 (pc' := 8) rfl (l' := #[.val (.int p0), .val (.int p1), .val (.int p2), .val (.int zn), .unset, .unset, .unset, .unset, .unset, .unset]) rfl ?_
  refine k_iloadN G X at_8 (pc' := 9) rfl rfl ?_
  refine k_ldcI G X (w0 hw) at_9 (pc' := 11) rfl ?_
  refine k_iand G X at_11 (pc' := 12) rfl rfl ?_
  refine k_bipush G X at_12 (pc' := 14) rfl (z := (8 : Int32)) (by decide) ?_
  refine k_irem G X at_14 (pc' := 15) rfl (by decide) rfl ?_
  obtain ⟨zf, q_zf⟩ : ∃ z, ((p1 &&& (2147483647 : Int32)) % (8 : Int32)) = z := ⟨_, rfl⟩
  have m_zf := rem_rng (p1 &&& (2147483647 : Int32)) (y := 8) 8 rfl (by decide) (and_rng _ 2147483647 rfl (by decide)).1
  rw [q_zf] at m_zf ⊢
  obtain ⟨o, h_zf⟩ : ∃ n : Nat, zf.toInt = n := ⟨zf.toInt.toNat, by omega⟩
  have ho := h_zf
  refine k_istore G X at_15 (pc' := 17) rfl (l' := #[.val (.int p0), .val (.int p1), .val (.int p2), .val (.int zn), .val (.int zf), .unset, .unset, .unset, .unset, .unset]) rfl ?_
  refine k_iconst G X at_17 (pc' := 18) rfl (z := (5 : Int32)) (by decide) ?_
  refine k_newP G X (aty := .char) (n := 5) (cap := 5) (w1 hw) at_18 (pc' := 20) rfl rfl (by decide) (by decide) (by decide) (by decide) (fun T h18 b18 k18 s_b18 E18 A_b18 X => ?_)
  have ge_b18 : n0 ≤ b18 := Nat.le_trans (Jvm.OwnK.Old_le O) (Nat.le_of_eq s_b18)
  replace O := O.ext E18
  replace S_CS := S_CS.ext E18
  replace S_FM := S_FM.ext E18
  replace A_b18 : Arf Z h18 b18 k18 .char 5 (fun _ => (.int (0 : Int32))) := A_b18
  refine k_dup G X at_20 (pc' := 21) rfl rfl ?_
  refine k_iconst G X at_21 (pc' := 22) rfl (z := (0 : Int32)) (by decide) ?_
  refine k_iloadN G X at_22 (pc' := 23) rfl rfl ?_
  refine k_iconst G X at_23 (pc' := 24) rfl (z := (0 : Int32)) (by decide) ?_
  refine k_callS G X (argsL := [(.int p2), (.int (0 : Int32))]) (rest := [(.int (0 : Int32)), (.ref b18), (.ref b18)]) rfl (w2 hw) (w3 hw) (w4 hw) (w5 hw) (by decide) (chr hw p2 (0 : Int32) h18 n0 _) at_24 pd19 rfl (pc' := 27) rfl rfl (wd := 3) rfl (by decide) (by decide) (by decide) (by decide) (fun T h24 v sf24 X q => ?_)
  replace X := W.drop X
  obtain ⟨r0, rfl, e24, a0, b0, d0⟩ := q
  replace X := X.eq e24
  show Go Γ n0 _ T (mkF Γ.m 27 #[.val (.int p0), .val (.int p1), .val (.int p2), .val (.int zn), .val (.int zf), .unset, .unset, .unset, .unset, .unset] [(.int r0), (.int (0 : Int32)), (.ref b18), (.ref b18)])
  refine k_castore G X (i := 0) (z := r0) A_b18 rfl (by decide) (nar_char a0 b0) ge_b18 (List.mem_of_getElem? (i := 0) rfl) at_27 (pc' := 28) rfl (fun T h27 W27 A_b18 X => ?_)
  replace O := O.wr W27 ge_b18
  replace S_CS := S_CS.wr W27
  replace S_FM := S_FM.wr W27
  refine k_dup G X at_28 (pc' := 29) rfl rfl ?_
  refine k_iconst G X at_29 (pc' := 30) rfl (z := (1 : Int32)) (by decide) ?_
  refine k_iloadN G X at_30 (pc' := 31) rfl rfl ?_
  refine k_iconst G X at_31 (pc' := 32) rfl (z := (1 : Int32)) (by decide) ?_
  refine k_callS G X (argsL := [(.int p2), (.int (1 : Int32))]) (rest := [(.int (1 : Int32)), (.ref b18), (.ref b18)]) rfl (w2 hw) (w3 hw) (w4 hw) (w5 hw) (by decide) (chr hw p2 (1 : Int32) h27 n0 _) at_32 pd19 rfl (pc' := 35) rfl rfl (wd := 3) rfl (by decide) (by decide) (by decide) (by decide) (fun T h32 v sf32 X q => ?_)
  replace X := W.drop X
  obtain ⟨r1, rfl, e32, a1, b1, d1⟩ := q
  replace X := X.eq e32
  show Go Γ n0 _ T (mkF Γ.m 35 #[.val (.int p0), .val (.int p1), .val (.int p2), .val (.int zn), .val (.int zf), .unset, .unset, .unset, .unset, .unset] [(.int r1), (.int (1 : Int32)), (.ref b18), (.ref b18)])
  refine k_castore G X (i := 1) (z := r1) A_b18 rfl (by decide) (nar_char a1 b1) ge_b18 (List.mem_of_getElem? (i := 0) rfl) at_35 (pc' := 36) rfl (fun T h35 W35 A_b18 X => ?_)
  replace O := O.wr W35 ge_b18
  replace S_CS := S_CS.wr W35
  replace S_FM := S_FM.wr W35
  refine k_dup G X at_36 (pc' := 37) rfl rfl ?_
  refine k_iconst G X at_37 (pc' := 38) rfl (z := (2 : Int32)) (by decide) ?_
  refine k_iloadN G X at_38 (pc' := 39) rfl rfl ?_
  refine k_iconst G X at_39 (pc' := 40) rfl (z := (2 : Int32)) (by decide) ?_
  refine k_callS G X (argsL := [(.int p2), (.int (2 : Int32))]) (rest := [(.int (2 : Int32)), (.ref b18), (.ref b18)]) rfl (w2 hw) (w3 hw) (w4 hw) (w5 hw) (by decide) (chr hw p2 (2 : Int32) h35 n0 _) at_40 pd19 rfl (pc' := 43) rfl rfl (wd := 3) rfl (by decide) (by decide) (by decide) (by decide) (fun T h40 v sf40 X q => ?_)
  replace X := W.drop X
  obtain ⟨r2, rfl, e40, a2, b2, d2⟩ := q
  replace X := X.eq e40
  show Go Γ n0 _ T (mkF Γ.m 43 #[.val (.int p0), .val (.int p1), .val (.int p2), .val (.int zn), .val (.int zf), .unset, .unset, .unset, .unset, .unset] [(.int r2), (.int (2 : Int32)), (.ref b18), (.ref b18)])
  refine k_castore G X (i := 2) (z := r2) A_b18 rfl (by decide) (nar_char a2 b2) ge_b18 (List.mem_of_getElem? (i := 0) rfl) at_43 (pc' := 44) rfl (fun T h43 W43 A_b18 X => ?_)
  replace O := O.wr W43 ge_b18
  replace S_CS := S_CS.wr W43
  replace S_FM := S_FM.wr W43
  refine k_dup G X at_44 (pc' := 45) rfl rfl ?_
  refine k_iconst G X at_45 (pc' := 46) rfl (z := (3 : Int32)) (by decide) ?_
  refine k_iloadN G X at_46 (pc' := 47) rfl rfl ?_
  refine k_iconst G X at_47 (pc' := 48) rfl (z := (3 : Int32)) (by decide) ?_
  refine k_callS G X (argsL := [(.int p2), (.int (3 : Int32))]) (rest := [(.int (3 : Int32)), (.ref b18), (.ref b18)]) rfl (w2 hw) (w3 hw) (w4 hw) (w5 hw) (by decide) (chr hw p2 (3 : Int32) h43 n0 _) at_48 pd19 rfl (pc' := 51) rfl rfl (wd := 3) rfl (by decide) (by decide) (by decide) (by decide) (fun T h48 v sf48 X q => ?_)
  replace X := W.drop X
  obtain ⟨r3, rfl, e48, a3, b3, d3⟩ := q
  replace X := X.eq e48
  show Go Γ n0 _ T (mkF Γ.m 51 #[.val (.int p0), .val (.int p1), .val (.int p2), .val (.int zn), .val (.int zf), .unset, .unset, .unset, .unset, .unset] [(.int r3), (.int (3 : Int32)), (.ref b18), (.ref b18)])
  refine k_castore G X (i := 3) (z := r3) A_b18 rfl (by decide) (nar_char a3 b3) ge_b18 (List.mem_of_getElem? (i := 0) rfl) at_51 (pc' := 52) rfl (fun T h51 W51 A_b18 X => ?_)
  replace O := O.wr W51 ge_b18
  replace S_CS := S_CS.wr W51
  replace S_FM := S_FM.wr W51
  refine k_dup G X at_52 (pc' := 53) rfl rfl ?_
  refine k_iconst G X at_53 (pc' := 54) rfl (z := (4 : Int32)) (by decide) ?_
  refine k_iloadN G X at_54 (pc' := 55) rfl rfl ?_
  refine k_iconst G X at_55 (pc' := 56) rfl (z := (4 : Int32)) (by decide) ?_
  refine k_callS G X (argsL := [(.int p2), (.int (4 : Int32))]) (rest := [(.int (4 : Int32)), (.ref b18), (.ref b18)]) rfl (w2 hw) (w3 hw) (w4 hw) (w5 hw) (by decide) (chr hw p2 (4 : Int32) h51 n0 _) at_56 pd19 rfl (pc' := 59) rfl rfl (wd := 3) rfl (by decide) (by decide) (by decide) (by decide) (fun T h56 v sf56 X q => ?_)
  replace X := W.drop X
  obtain ⟨r4, rfl, e56, a4, b4, d4⟩ := q
  replace X := X.eq e56
  show Go Γ n0 _ T (mkF Γ.m 59 #[.val (.int p0), .val (.int p1), .val (.int p2), .val (.int zn), .val (.int zf), .unset, .unset, .unset, .unset, .unset] [(.int r4), (.int (4 : Int32)), (.ref b18), (.ref b18)])
  refine k_castore G X (i := 4) (z := r4) A_b18 rfl (by decide) (nar_char a4 b4) ge_b18 (List.mem_of_getElem? (i := 0) rfl) at_59 (pc' := 60) rfl (fun T h59 W59 A_b18 X => ?_)
  replace O := O.wr W59 ge_b18
  replace S_CS := S_CS.wr W59
  replace S_FM := S_FM.wr W59
  refine k_astore G X at_60 (pc' := 62) rfl rfl (l' := #[.val (.int p0), .val (.int p1), .val (.int p2), .val (.int zn), .val (.int zf), .val (.ref b18), .unset, .unset, .unset, .unset]) rfl ?_
  obtain ⟨cc, hce⟩ : ∃ cc : Nat → Int32, cc = fun i => match i with | 0 => r0 | 1 => r1 | 2 => r2 | 3 => r3 | 4 => r4 | _ => 0 := ⟨_, rfl⟩
  have hcc : ∀ i, i < 5 → 0 ≤ (cc i).toInt ∧ (cc i).toInt ≤ 255 ∧ ((cc i).toInt = 32 ∨ (48 ≤ (cc i).toInt ∧ (cc i).toInt ≤ 57)) := by intro i hi; rw [hce]; rcases i5 hi with rfl | rfl | rfl | rfl | rfl <;> exact ⟨by assumption, by assumption, by assumption⟩
  replace A_b18 := A_b18.congr (g := fun i => .int (cc i)) (fun i hi => by rw [hce]; rcases i5 hi with rfl | rfl | rfl | rfl | rfl <;> rfl)
  refine k_aload G X at_62 (pc' := 64) rfl rfl rfl ?_
  refine k_iloadN G X at_64 (pc' := 65) rfl rfl ?_
  refine k_callS G X (argsL := [(.ref b18), (.int zn)]) (rest := []) rfl (w6 hw) (w7 hw) (w4 hw) (w8 hw) (by decide) (mkstr hw b18 k18 zn cs n cc h59 n0 _ hn hn5 A_b18 hcc O S_CS hcs) at_65 pd20 rfl (pc' := 68) rfl rfl (wd := 0) rfl (by decide) (by decide) (by decide) (by decide) (fun T h65 v sf65 X q => ?_)
  replace X := W.drop X
  obtain ⟨s, b, kb, rfl, K65, SS⟩ := q
  replace S_CS := Jvm.OwnK.Sta_keep S_CS K65
  replace S_FM := Jvm.OwnK.Sta_keep S_FM K65
  replace O := O.keep K65 (all0)
  replace A_b18 := A_b18.keep K65 nin0
  have SE := SS.1
  show Go Γ n0 _ T (mkF Γ.m 68 #[.val (.int p0), .val (.int p1), .val (.int p2), .val (.int zn), .val (.int zf), .val (.ref b18), .unset, .unset, .unset, .unset] [(.ref s)])
  refine k_astore G X at_68 (pc' := 70) rfl rfl (l' := #[.val (.int p0), .val (.int p1), .val (.int p2), .val (.int zn), .val (.int zf), .val (.ref b18), .val (.ref s), .unset, .unset, .unset]) rfl ?_
  refine k_new G X (w17 hw) (w18 hw) (w19 hw) at_70 (pc' := 73) rfl (by decide) (by decide) (fun T h70 b70 s_b70 E70 X_b70 D70 X => ?_)
  have ne_b18_b70 : b18 ≠ b70 := Nat.ne_of_lt (Nat.lt_of_lt_of_eq A_b18.lt s_b70)
  have ne_s_b70 : s ≠ b70 := Nat.ne_of_lt (Nat.lt_of_lt_of_eq SS.lt s_b70)
  have ne_b_b70 : b ≠ b70 := Nat.ne_of_lt (Nat.lt_of_lt_of_eq SS.lt' s_b70)
  have ge_b70 : n0 ≤ b70 := Nat.le_trans (Jvm.OwnK.Old_le O) (Nat.le_of_eq s_b70)
  replace O := O.ext E70
  replace S_CS := S_CS.ext E70
  replace S_FM := S_FM.ext E70
  replace A_b18 := A_b18.ext E70
  replace SS := SS.ext E70
  have F_b70_line : Fld Z h70 b70 "com/example/libinvariant/libinvariant/aiger/LineFields" "line" "Ljava/lang/String;" .null := D70 (Or.inr (w27 hw)) (ty := (.object "java/lang/String")) (by decide)
  have F_b70_space : Fld Z h70 b70 "com/example/libinvariant/libinvariant/aiger/LineFields" "space" "I" (.int (0 : Int32)) := D70 (Or.inl (w29 hw)) (ty := .int) (by decide)
  refine k_dup G X at_73 (pc' := 74) rfl rfl ?_
  refine k_aload G X at_74 (pc' := 76) rfl rfl rfl ?_
  refine k_iload G X at_76 (pc' := 78) rfl rfl ?_
  refine k_callI G X (argsL := [(.ref s), (.int zf)]) (rest := [(.ref b70)]) rfl rfl (w20 hw) (w21 hw) (w19 hw) (w22 hw) (by decide) (lf_init hw b70 s zf h70 n0 _ ⟨ge_b70, (List.mem_of_getElem? (i := 0) rfl)⟩ X_b70 F_b70_line F_b70_space) at_78 pd21 rfl (pc' := 81) rfl rfl (wd := 1) rfl (by decide) (by decide) (by decide) (by decide) (fun T h78 v sf78 X q => ?_)
  replace X := W.drop X
  obtain ⟨rfl, KI, E_lf, FL, FS_⟩ := q
  replace S_CS := Sta_keepL S_CS KI (allS (Pln_exa X_b70) (all0))
  replace S_FM := Sta_keepL S_FM KI (allS (Pln_exa X_b70) (all0))
  replace O := O.keep KI (allS ge_b70 (all0))
  replace A_b18 := A_b18.keep KI (by simp only [List.mem_cons, List.not_mem_nil, or_false, not_or]; exact ne_b18_b70)
  replace SS := SS.keep KI (by simp only [List.mem_cons, List.not_mem_nil, or_false, not_or]; exact ne_s_b70) (by simp only [List.mem_cons, List.not_mem_nil, or_false, not_or]; exact ne_b_b70)
  replace X_b70 := X_b70.keep KI
  have hzf1 : (zf - (1 : Int32)).toInt = (o : Int) - 1 := by rw [isub_toInt (by rw [show (1 : Int32).toInt = 1 from rfl]; omega) (by rw [show (1 : Int32).toInt = 1 from rfl]; omega), ho]; rfl
  show Go Γ n0 _ T (mkF Γ.m 81 #[.val (.int p0), .val (.int p1), .val (.int p2), .val (.int zn), .val (.int zf), .val (.ref b18), .val (.ref s), .unset, .unset, .unset] [(.ref b70)])
  refine k_astore G X at_81 (pc' := 83) rfl rfl (l' := #[.val (.int p0), .val (.int p1), .val (.int p2), .val (.int zn), .val (.int zf), .val (.ref b18), .val (.ref s), .val (.ref b70), .unset, .unset]) rfl ?_
  refine k_aload G X at_83 (pc' := 85) rfl rfl rfl ?_
  refine k_callV G X (argsL := []) (rest := []) rfl X_b70 (w30 hw) (w31 hw) (nf_sel (w33 hw)) (w33 hw) (w32 hw) (w19 hw) (w34 hw) (by decide) (lf_has hw b70 s b kb (zf - (1 : Int32)) zn cs cc n h78 n0 _ FL FS_ SS S_CS hcs hn) at_85 pd3 rfl (pc' := 88) rfl rfl (wd := 0) rfl (by decide) (by decide) (by decide) (by decide) (fun T h85 v sf85 X q => ?_)
  replace X := W.drop X
  obtain ⟨mo85, rfl, hm1, hm0, e85⟩ := q
  replace X := X.eq e85
  show Go Γ n0 _ T (mkF Γ.m 88 #[.val (.int p0), .val (.int p1), .val (.int p2), .val (.int zn), .val (.int zf), .val (.ref b18), .val (.ref s), .val (.ref b70), .unset, .unset] [(.int mo85)])
  refine k_iload G X at_88 (pc' := 90) rfl rfl ?_
  refine k_iloadN G X at_90 (pc' := 91) rfl rfl ?_
  refine k_icmp_gt G X at_91 (pc' := 98) rfl (by decide) (pc'' := 94) rfl (fun c91 => ?_) (fun c91 => ?_)
  · refine k_iconst G X at_98 (pc' := 99) rfl (z := (0 : Int32)) (by decide) ?_
    refine k_icmp_eq G X at_99 (pc' := 104) rfl (by decide) (pc'' := 102) rfl (fun c99 => ?_) (fun c99 => (absurd c99 (by intro hx; first | exact hx (hm1 (by omega)) | exact hx (hm0 (by omega)))))
    refine k_iload G X at_104 (pc' := 106) rfl rfl ?_
    refine k_iloadN G X at_106 (pc' := 107) rfl rfl ?_
    refine k_icmp_ge G X at_107 (pc' := 120) rfl (by decide) (pc'' := 110) rfl (fun c107 => ?_) (fun c107 => ?_)
    · refine k_iconst G X at_120 (pc' := 121) rfl (z := (1 : Int32)) (by decide) ?_
      refine k_retb G X at_121 (t := .boolean) rfl (by simp) rfl ?_ (by decide) (by decide)
      rfl
    · refine k_aload G X at_110 (pc' := 112) rfl rfl rfl ?_
      refine k_iload G X at_112 (pc' := 114) rfl rfl ?_
      refine k_caload G X (i := o) (v := (.int (cc o))) A_b18 ho (by omega) rfl at_114 (pc' := 115) rfl ?_
      refine k_bipush G X at_115 (pc' := 117) rfl (z := (32 : Int32)) (by decide) ?_
      refine k_icmp_ne G X at_117 (pc' := 122) rfl (by decide) (pc'' := 120) rfl (fun c117 => ?_) (fun c117 => ?_)
      · refine k_aload G X at_122 (pc' := 124) rfl rfl rfl ?_
        refine k_ldcS G X (n := 4) (w81 hw) (strAtoms hw) at_124 (pc' := 126) rfl (by decide) (by decide) (by decide) (by decide) (fun T h124 s124 E124 X => ?_)
        replace O := O.ext E124
        replace S_CS := S_CS.ext E124
        replace S_FM := S_FM.ext E124
        replace A_b18 := A_b18.ext E124
        replace SS := SS.ext E124
        replace X_b70 := X_b70.ext E124
        replace FL := FL.ext E124
        replace FS_ := FS_.ext E124
        refine k_callV G X (argsL := [(.ref s124)]) (rest := []) rfl X_b70 (w82 hw) (w83 hw) (nf_sel (w85 hw)) (w85 hw) (w84 hw) (w19 hw) (w86 hw) (by decide) (lf_next hw b70 s b s124 kb (zf - (1 : Int32)) zf zn cs fm cc o n h124 n0 _ ⟨ge_b70, (List.mem_of_getElem? (i := 0) rfl)⟩ X_b70 FL FS_ SS ne_s_b70 ne_b_b70 S_CS hcs S_FM hfm ho (by omega) hn hn5 hcc (Int32.sub_add_cancel zf 1) (fun q => c117 (of_toInt (by rw [q]; rfl)))) at_126 pd22 rfl (pc' := 129) rfl rfl (wd := 0) rfl (by decide) (by decide) (by decide) (by decide) (fun T h126 v sf126 X q => ?_)
        replace X := W.drop X
        obtain ⟨gt126, sp126, E126, rfl, KN126, hF126, hsp_126, E_lf', FL', FS', SS'⟩ := q
        replace S_CS := Sta_keepL S_CS KN126 (allS (Pln_exa X_b70) (all0))
        replace S_FM := Sta_keepL S_FM KN126 (allS (Pln_exa X_b70) (all0))
        replace O := O.keep KN126 (allS ge_b70 (all0))
        replace A_b18 := A_b18.keep KN126 (by simp only [List.mem_cons, List.not_mem_nil, or_false, not_or]; exact ne_b18_b70)
        replace X_b70 := X_b70.keep KN126
        have FL := FL'
        have FS_ := FS'
        have SS := SS'
        show Go Γ n0 _ T (mkF Γ.m 129 #[.val (.int p0), .val (.int p1), .val (.int p2), .val (.int zn), .val (.int zf), .val (.ref b18), .val (.ref s), .val (.ref b70), .unset, .unset] [(.int gt126)])
        refine k_pop G X at_129 (pc' := 130) rfl rfl ?_
        refine k_aload G X at_130 (pc' := 132) rfl rfl rfl ?_
        refine k_iloadN G X at_132 (pc' := 133) rfl rfl ?_
        refine k_iload G X at_133 (pc' := 135) rfl rfl ?_
        refine k_callS G X (argsL := [(.ref b18), (.int zn), (.int zf)]) (rest := []) rfl (w132 hw) (w133 hw) (w4 hw) (w134 hw) (by decide) (fsp hw b18 k18 zn zf n o cc h126 n0 _ hn ho (by omega) hn5 A_b18) at_135 pd23 rfl (pc' := 138) rfl rfl (wd := 0) rfl (by decide) (by decide) (by decide) (by decide) (fun T h135 v sf135 X q => ?_)
        replace X := W.drop X
        obtain ⟨to135, E135, rfl, hto135, hG135, e135⟩ := q
        replace X := X.eq e135
        obtain rfl := hF126.uniq hG135
        obtain rfl : sp126 = to135 := of_toInt (by rw [hsp_126, hto135])
        have hEb := hF126.2.1; have hEa := hF126.1
        show Go Γ n0 _ T (mkF Γ.m 138 #[.val (.int p0), .val (.int p1), .val (.int p2), .val (.int zn), .val (.int zf), .val (.ref b18), .val (.ref s), .val (.ref b70), .unset, .unset] [(.int sp126)])
        refine k_istore G X at_138 (pc' := 140) rfl (l' := #[.val (.int p0), .val (.int p1), .val (.int p2), .val (.int zn), .val (.int zf), .val (.ref b18), .val (.ref s), .val (.ref b70), .val (.int sp126), .unset]) rfl ?_
        refine k_aload G X at_140 (pc' := 142) rfl rfl rfl ?_
        refine k_callV G X (argsL := []) (rest := []) rfl X_b70 (w30 hw) (w31 hw) (nf_sel (w33 hw)) (w33 hw) (w32 hw) (w19 hw) (w34 hw) (by decide) (lf_has hw b70 s b kb sp126 zn cs cc n h126 n0 _ FL FS_ SS S_CS hcs hn) at_142 pd3 rfl (pc' := 145) rfl rfl (wd := 0) rfl (by decide) (by decide) (by decide) (by decide) (fun T h142 v sf142 X q => ?_)
        replace X := W.drop X
        obtain ⟨mo142, rfl, hm1, hm0, e142⟩ := q
        replace X := X.eq e142
        show Go Γ n0 _ T (mkF Γ.m 145 #[.val (.int p0), .val (.int p1), .val (.int p2), .val (.int zn), .val (.int zf), .val (.ref b18), .val (.ref s), .val (.ref b70), .val (.int sp126), .unset] [(.int mo142)])
        refine k_iload G X at_145 (pc' := 147) rfl rfl ?_
        refine k_iloadN G X at_147 (pc' := 148) rfl rfl ?_
        refine k_icmp_ge G X at_148 (pc' := 155) rfl (by decide) (pc'' := 151) rfl (fun c148 => ?_) (fun c148 => ?_)
        · refine k_iconst G X at_155 (pc' := 156) rfl (z := (0 : Int32)) (by decide) ?_
          refine k_icmp_eq G X at_156 (pc' := 161) rfl (by decide) (pc'' := 159) rfl (fun c156 => ?_) (fun c156 => (absurd c156 (by intro hx; first | exact hx (hm1 (by omega)) | exact hx (hm0 (by omega)))))
          refine k_iload G X at_161 (pc' := 163) rfl rfl ?_
          refine k_iconst G X at_163 (pc' := 164) rfl (z := (1 : Int32)) (by decide) ?_
          refine k_iadd G X at_164 (pc' := 165) rfl rfl ?_
          have hsp1 : (sp126 + (1 : Int32)).toInt = (E126 + 1 : Nat) := by rw [iadd_toInt (by rw [show (1 : Int32).toInt = 1 from rfl]; omega) (by rw [show (1 : Int32).toInt = 1 from rfl]; omega), hsp_126]; rfl
          refine k_iloadN G X at_165 (pc' := 166) rfl rfl ?_
          refine k_icmp_ge G X at_166 (pc' := 181) rfl (by decide) (pc'' := 169) rfl (fun c166 => ?_) (fun c166 => ?_)
          · refine k_iconst G X at_181 (pc' := 182) rfl (z := (1 : Int32)) (by decide) ?_
            refine k_retb G X at_182 (t := .boolean) rfl (by simp) rfl ?_ (by decide) (by decide)
            rfl
          · refine k_aload G X at_169 (pc' := 171) rfl rfl rfl ?_
            refine k_iload G X at_171 (pc' := 173) rfl rfl ?_
            refine k_iconst G X at_173 (pc' := 174) rfl (z := (1 : Int32)) (by decide) ?_
            refine k_iadd G X at_174 (pc' := 175) rfl rfl ?_
            refine k_caload G X (i := (E126 + 1)) (v := (.int (cc (E126 + 1)))) A_b18 hsp1 (by omega) rfl at_175 (pc' := 176) rfl ?_
            refine k_bipush G X at_176 (pc' := 178) rfl (z := (32 : Int32)) (by decide) ?_
            refine k_icmp_ne G X at_178 (pc' := 183) rfl (by decide) (pc'' := 181) rfl (fun c178 => ?_) (fun c178 => ?_)
            · refine k_aload G X at_183 (pc' := 185) rfl rfl rfl ?_
              refine k_ldcS G X (n := 4) (w135 hw) (strAtoms hw) at_185 (pc' := 187) rfl (by decide) (by decide) (by decide) (by decide) (fun T h185 s185 E185 X => ?_)
              replace O := O.ext E185
              replace S_CS := S_CS.ext E185
              replace S_FM := S_FM.ext E185
              replace A_b18 := A_b18.ext E185
              replace X_b70 := X_b70.ext E185
              replace FL := FL.ext E185
              replace FS_ := FS_.ext E185
              replace SS := SS.ext E185
              refine k_callV G X (argsL := [(.ref s185)]) (rest := []) rfl X_b70 (w82 hw) (w83 hw) (nf_sel (w85 hw)) (w85 hw) (w84 hw) (w19 hw) (w86 hw) (by decide) (lf_next hw b70 s b s185 kb sp126 (sp126 + (1 : Int32)) zn cs fm cc (E126 + 1) n h185 n0 _ ⟨ge_b70, (List.mem_of_getElem? (i := 0) rfl)⟩ X_b70 FL FS_ SS ne_s_b70 ne_b_b70 S_CS hcs S_FM hfm hsp1 (by omega) hn hn5 hcc rfl (fun q => c178 (of_toInt (by rw [q]; rfl)))) at_187 pd22 rfl (pc' := 190) rfl rfl (wd := 0) rfl (by decide) (by decide) (by decide) (by decide) (fun T h187 v sf187 X q => ?_)
              replace X := W.drop X
              obtain ⟨gt187, sp187, E187, rfl, KN187, hF187, hsp_187, E_lf', FL', FS', SS'⟩ := q
              replace S_CS := Sta_keepL S_CS KN187 (allS (Pln_exa X_b70) (all0))
              replace S_FM := Sta_keepL S_FM KN187 (allS (Pln_exa X_b70) (all0))
              replace O := O.keep KN187 (allS ge_b70 (all0))
              replace A_b18 := A_b18.keep KN187 (by simp only [List.mem_cons, List.not_mem_nil, or_false, not_or]; exact ne_b18_b70)
              replace X_b70 := X_b70.keep KN187
              have FL := FL'
              have FS_ := FS'
              have SS := SS'
              show Go Γ n0 _ T (mkF Γ.m 190 #[.val (.int p0), .val (.int p1), .val (.int p2), .val (.int zn), .val (.int zf), .val (.ref b18), .val (.ref s), .val (.ref b70), .val (.int sp126), .unset] [(.int gt187)])
              refine k_pop G X at_190 (pc' := 191) rfl rfl ?_
              refine k_aload G X at_191 (pc' := 193) rfl rfl rfl ?_
              refine k_iloadN G X at_193 (pc' := 194) rfl rfl ?_
              refine k_iload G X at_194 (pc' := 196) rfl rfl ?_
              refine k_iconst G X at_196 (pc' := 197) rfl (z := (1 : Int32)) (by decide) ?_
              refine k_iadd G X at_197 (pc' := 198) rfl rfl ?_
              refine k_callS G X (argsL := [(.ref b18), (.int zn), (.int (sp126 + (1 : Int32)))]) (rest := []) rfl (w132 hw) (w133 hw) (w4 hw) (w134 hw) (by decide) (fsp hw b18 k18 zn (sp126 + (1 : Int32)) n (E126 + 1) cc h187 n0 _ hn hsp1 (by omega) hn5 A_b18) at_198 pd23 rfl (pc' := 201) rfl rfl (wd := 0) rfl (by decide) (by decide) (by decide) (by decide) (fun T h198 v sf198 X q => ?_)
              replace X := W.drop X
              obtain ⟨to198, E198, rfl, hto198, hG198, e198⟩ := q
              replace X := X.eq e198
              obtain rfl := hF187.uniq hG198
              obtain rfl : sp187 = to198 := of_toInt (by rw [hsp_187, hto198])
              have hEb := hF187.2.1; have hEa := hF187.1
              show Go Γ n0 _ T (mkF Γ.m 201 #[.val (.int p0), .val (.int p1), .val (.int p2), .val (.int zn), .val (.int zf), .val (.ref b18), .val (.ref s), .val (.ref b70), .val (.int sp126), .unset] [(.int sp187)])
              refine k_istore G X at_201 (pc' := 203) rfl (l' := #[.val (.int p0), .val (.int p1), .val (.int p2), .val (.int zn), .val (.int zf), .val (.ref b18), .val (.ref s), .val (.ref b70), .val (.int sp126), .val (.int sp187)]) rfl ?_
              refine k_aload G X at_203 (pc' := 205) rfl rfl rfl ?_
              refine k_callV G X (argsL := []) (rest := []) rfl X_b70 (w30 hw) (w31 hw) (nf_sel (w33 hw)) (w33 hw) (w32 hw) (w19 hw) (w34 hw) (by decide) (lf_has hw b70 s b kb sp187 zn cs cc n h187 n0 _ FL FS_ SS S_CS hcs hn) at_205 pd3 rfl (pc' := 208) rfl rfl (wd := 0) rfl (by decide) (by decide) (by decide) (by decide) (fun T h205 v sf205 X q => ?_)
              replace X := W.drop X
              obtain ⟨mo205, rfl, hm1, hm0, e205⟩ := q
              replace X := X.eq e205
              show Go Γ n0 _ T (mkF Γ.m 208 #[.val (.int p0), .val (.int p1), .val (.int p2), .val (.int zn), .val (.int zf), .val (.ref b18), .val (.ref s), .val (.ref b70), .val (.int sp126), .val (.int sp187)] [(.int mo205)])
              refine k_iload G X at_208 (pc' := 210) rfl rfl ?_
              refine k_iloadN G X at_210 (pc' := 211) rfl rfl ?_
              refine k_icmp_ge G X at_211 (pc' := 218) rfl (by decide) (pc'' := 214) rfl (fun c211 => ?_) (fun c211 => ?_)
              · refine k_iconst G X at_218 (pc' := 219) rfl (z := (0 : Int32)) (by decide) ?_
                refine k_icmp_ne G X at_219 (pc' := 226) rfl (by decide) (pc'' := 222) rfl (fun c219 => (absurd c219 (by intro hx; first | exact hx (hm1 (by omega)) | exact hx (hm0 (by omega))))) (fun c219 => ?_)
                refine k_iconst G X at_222 (pc' := 223) rfl (z := (1 : Int32)) (by decide) ?_
                refine k_goto G X at_223 (by decide) (pc' := 227) rfl ?_
                refine k_retb G X at_227 (t := .boolean) rfl (by simp) rfl ?_ (by decide) (by decide)
                rfl
              · refine k_iconst G X at_214 (pc' := 215) rfl (z := (1 : Int32)) (by decide) ?_
                refine k_goto G X at_215 (by decide) (pc' := 219) rfl ?_
                refine k_icmp_ne G X at_219 (pc' := 226) rfl (by decide) (pc'' := 222) rfl (fun c219 => (absurd c219 (by intro hx; first | exact hx (hm1 (by omega)) | exact hx (hm0 (by omega))))) (fun c219 => ?_)
                refine k_iconst G X at_222 (pc' := 223) rfl (z := (1 : Int32)) (by decide) ?_
                refine k_goto G X at_223 (by decide) (pc' := 227) rfl ?_
                refine k_retb G X at_227 (t := .boolean) rfl (by simp) rfl ?_ (by decide) (by decide)
                rfl
            · refine k_iconst G X at_181 (pc' := 182) rfl (z := (1 : Int32)) (by decide) ?_
              refine k_retb G X at_182 (t := .boolean) rfl (by simp) rfl ?_ (by decide) (by decide)
              rfl
        · refine k_iconst G X at_151 (pc' := 152) rfl (z := (1 : Int32)) (by decide) ?_
          refine k_goto G X at_152 (by decide) (pc' := 156) rfl ?_
          refine k_icmp_eq G X at_156 (pc' := 161) rfl (by decide) (pc'' := 159) rfl (fun c156 => ?_) (fun c156 => (absurd c156 (by intro hx; first | exact hx (hm1 (by omega)) | exact hx (hm0 (by omega)))))
          refine k_iload G X at_161 (pc' := 163) rfl rfl ?_
          refine k_iconst G X at_163 (pc' := 164) rfl (z := (1 : Int32)) (by decide) ?_
          refine k_iadd G X at_164 (pc' := 165) rfl rfl ?_
          have hsp1 : (sp126 + (1 : Int32)).toInt = (E126 + 1 : Nat) := by rw [iadd_toInt (by rw [show (1 : Int32).toInt = 1 from rfl]; omega) (by rw [show (1 : Int32).toInt = 1 from rfl]; omega), hsp_126]; rfl
          refine k_iloadN G X at_165 (pc' := 166) rfl rfl ?_
          refine k_icmp_ge G X at_166 (pc' := 181) rfl (by decide) (pc'' := 169) rfl (fun c166 => ?_) (fun c166 => ?_)
          · refine k_iconst G X at_181 (pc' := 182) rfl (z := (1 : Int32)) (by decide) ?_
            refine k_retb G X at_182 (t := .boolean) rfl (by simp) rfl ?_ (by decide) (by decide)
            rfl
          · refine k_aload G X at_169 (pc' := 171) rfl rfl rfl ?_
            refine k_iload G X at_171 (pc' := 173) rfl rfl ?_
            refine k_iconst G X at_173 (pc' := 174) rfl (z := (1 : Int32)) (by decide) ?_
            refine k_iadd G X at_174 (pc' := 175) rfl rfl ?_
            refine k_caload G X (i := (E126 + 1)) (v := (.int (cc (E126 + 1)))) A_b18 hsp1 (by omega) rfl at_175 (pc' := 176) rfl ?_
            refine k_bipush G X at_176 (pc' := 178) rfl (z := (32 : Int32)) (by decide) ?_
            refine k_icmp_ne G X at_178 (pc' := 183) rfl (by decide) (pc'' := 181) rfl (fun c178 => ?_) (fun c178 => ?_)
            · refine k_aload G X at_183 (pc' := 185) rfl rfl rfl ?_
              refine k_ldcS G X (n := 4) (w135 hw) (strAtoms hw) at_185 (pc' := 187) rfl (by decide) (by decide) (by decide) (by decide) (fun T h185 s185 E185 X => ?_)
              replace O := O.ext E185
              replace S_CS := S_CS.ext E185
              replace S_FM := S_FM.ext E185
              replace A_b18 := A_b18.ext E185
              replace X_b70 := X_b70.ext E185
              replace FL := FL.ext E185
              replace FS_ := FS_.ext E185
              replace SS := SS.ext E185
              refine k_callV G X (argsL := [(.ref s185)]) (rest := []) rfl X_b70 (w82 hw) (w83 hw) (nf_sel (w85 hw)) (w85 hw) (w84 hw) (w19 hw) (w86 hw) (by decide) (lf_next hw b70 s b s185 kb sp126 (sp126 + (1 : Int32)) zn cs fm cc (E126 + 1) n h185 n0 _ ⟨ge_b70, (List.mem_of_getElem? (i := 0) rfl)⟩ X_b70 FL FS_ SS ne_s_b70 ne_b_b70 S_CS hcs S_FM hfm hsp1 (by omega) hn hn5 hcc rfl (fun q => c178 (of_toInt (by rw [q]; rfl)))) at_187 pd22 rfl (pc' := 190) rfl rfl (wd := 0) rfl (by decide) (by decide) (by decide) (by decide) (fun T h187 v sf187 X q => ?_)
              replace X := W.drop X
              obtain ⟨gt187, sp187, E187, rfl, KN187, hF187, hsp_187, E_lf', FL', FS', SS'⟩ := q
              replace S_CS := Sta_keepL S_CS KN187 (allS (Pln_exa X_b70) (all0))
              replace S_FM := Sta_keepL S_FM KN187 (allS (Pln_exa X_b70) (all0))
              replace O := O.keep KN187 (allS ge_b70 (all0))
              replace A_b18 := A_b18.keep KN187 (by simp only [List.mem_cons, List.not_mem_nil, or_false, not_or]; exact ne_b18_b70)
              replace X_b70 := X_b70.keep KN187
              have FL := FL'
              have FS_ := FS'
              have SS := SS'
              show Go Γ n0 _ T (mkF Γ.m 190 #[.val (.int p0), .val (.int p1), .val (.int p2), .val (.int zn), .val (.int zf), .val (.ref b18), .val (.ref s), .val (.ref b70), .val (.int sp126), .unset] [(.int gt187)])
              refine k_pop G X at_190 (pc' := 191) rfl rfl ?_
              refine k_aload G X at_191 (pc' := 193) rfl rfl rfl ?_
              refine k_iloadN G X at_193 (pc' := 194) rfl rfl ?_
              refine k_iload G X at_194 (pc' := 196) rfl rfl ?_
              refine k_iconst G X at_196 (pc' := 197) rfl (z := (1 : Int32)) (by decide) ?_
              refine k_iadd G X at_197 (pc' := 198) rfl rfl ?_
              refine k_callS G X (argsL := [(.ref b18), (.int zn), (.int (sp126 + (1 : Int32)))]) (rest := []) rfl (w132 hw) (w133 hw) (w4 hw) (w134 hw) (by decide) (fsp hw b18 k18 zn (sp126 + (1 : Int32)) n (E126 + 1) cc h187 n0 _ hn hsp1 (by omega) hn5 A_b18) at_198 pd23 rfl (pc' := 201) rfl rfl (wd := 0) rfl (by decide) (by decide) (by decide) (by decide) (fun T h198 v sf198 X q => ?_)
              replace X := W.drop X
              obtain ⟨to198, E198, rfl, hto198, hG198, e198⟩ := q
              replace X := X.eq e198
              obtain rfl := hF187.uniq hG198
              obtain rfl : sp187 = to198 := of_toInt (by rw [hsp_187, hto198])
              have hEb := hF187.2.1; have hEa := hF187.1
              show Go Γ n0 _ T (mkF Γ.m 201 #[.val (.int p0), .val (.int p1), .val (.int p2), .val (.int zn), .val (.int zf), .val (.ref b18), .val (.ref s), .val (.ref b70), .val (.int sp126), .unset] [(.int sp187)])
              refine k_istore G X at_201 (pc' := 203) rfl (l' := #[.val (.int p0), .val (.int p1), .val (.int p2), .val (.int zn), .val (.int zf), .val (.ref b18), .val (.ref s), .val (.ref b70), .val (.int sp126), .val (.int sp187)]) rfl ?_
              refine k_aload G X at_203 (pc' := 205) rfl rfl rfl ?_
              refine k_callV G X (argsL := []) (rest := []) rfl X_b70 (w30 hw) (w31 hw) (nf_sel (w33 hw)) (w33 hw) (w32 hw) (w19 hw) (w34 hw) (by decide) (lf_has hw b70 s b kb sp187 zn cs cc n h187 n0 _ FL FS_ SS S_CS hcs hn) at_205 pd3 rfl (pc' := 208) rfl rfl (wd := 0) rfl (by decide) (by decide) (by decide) (by decide) (fun T h205 v sf205 X q => ?_)
              replace X := W.drop X
              obtain ⟨mo205, rfl, hm1, hm0, e205⟩ := q
              replace X := X.eq e205
              show Go Γ n0 _ T (mkF Γ.m 208 #[.val (.int p0), .val (.int p1), .val (.int p2), .val (.int zn), .val (.int zf), .val (.ref b18), .val (.ref s), .val (.ref b70), .val (.int sp126), .val (.int sp187)] [(.int mo205)])
              refine k_iload G X at_208 (pc' := 210) rfl rfl ?_
              refine k_iloadN G X at_210 (pc' := 211) rfl rfl ?_
              refine k_icmp_ge G X at_211 (pc' := 218) rfl (by decide) (pc'' := 214) rfl (fun c211 => ?_) (fun c211 => ?_)
              · refine k_iconst G X at_218 (pc' := 219) rfl (z := (0 : Int32)) (by decide) ?_
                refine k_icmp_ne G X at_219 (pc' := 226) rfl (by decide) (pc'' := 222) rfl (fun c219 => (absurd c219 (by intro hx; first | exact hx (hm1 (by omega)) | exact hx (hm0 (by omega))))) (fun c219 => ?_)
                refine k_iconst G X at_222 (pc' := 223) rfl (z := (1 : Int32)) (by decide) ?_
                refine k_goto G X at_223 (by decide) (pc' := 227) rfl ?_
                refine k_retb G X at_227 (t := .boolean) rfl (by simp) rfl ?_ (by decide) (by decide)
                rfl
              · refine k_iconst G X at_214 (pc' := 215) rfl (z := (1 : Int32)) (by decide) ?_
                refine k_goto G X at_215 (by decide) (pc' := 219) rfl ?_
                refine k_icmp_ne G X at_219 (pc' := 226) rfl (by decide) (pc'' := 222) rfl (fun c219 => (absurd c219 (by intro hx; first | exact hx (hm1 (by omega)) | exact hx (hm0 (by omega))))) (fun c219 => ?_)
                refine k_iconst G X at_222 (pc' := 223) rfl (z := (1 : Int32)) (by decide) ?_
                refine k_goto G X at_223 (by decide) (pc' := 227) rfl ?_
                refine k_retb G X at_227 (t := .boolean) rfl (by simp) rfl ?_ (by decide) (by decide)
                rfl
            · refine k_iconst G X at_181 (pc' := 182) rfl (z := (1 : Int32)) (by decide) ?_
              refine k_retb G X at_182 (t := .boolean) rfl (by simp) rfl ?_ (by decide) (by decide)
              rfl
      · refine k_iconst G X at_120 (pc' := 121) rfl (z := (1 : Int32)) (by decide) ?_
        refine k_retb G X at_121 (t := .boolean) rfl (by simp) rfl ?_ (by decide) (by decide)
        rfl
  · refine k_iconst G X at_94 (pc' := 95) rfl (z := (1 : Int32)) (by decide) ?_
    refine k_goto G X at_95 (by decide) (pc' := 99) rfl ?_
    refine k_icmp_eq G X at_99 (pc' := 104) rfl (by decide) (pc'' := 102) rfl (fun c99 => ?_) (fun c99 => (absurd c99 (by intro hx; first | exact hx (hm1 (by omega)) | exact hx (hm0 (by omega)))))
    refine k_iload G X at_104 (pc' := 106) rfl rfl ?_
    refine k_iloadN G X at_106 (pc' := 107) rfl rfl ?_
    refine k_icmp_ge G X at_107 (pc' := 120) rfl (by decide) (pc'' := 110) rfl (fun c107 => ?_) (fun c107 => ?_)
    · refine k_iconst G X at_120 (pc' := 121) rfl (z := (1 : Int32)) (by decide) ?_
      refine k_retb G X at_121 (t := .boolean) rfl (by simp) rfl ?_ (by decide) (by decide)
      rfl
    · refine k_aload G X at_110 (pc' := 112) rfl rfl rfl ?_
      refine k_iload G X at_112 (pc' := 114) rfl rfl ?_
      refine k_caload G X (i := o) (v := (.int (cc o))) A_b18 ho (by omega) rfl at_114 (pc' := 115) rfl ?_
      refine k_bipush G X at_115 (pc' := 117) rfl (z := (32 : Int32)) (by decide) ?_
      refine k_icmp_ne G X at_117 (pc' := 122) rfl (by decide) (pc'' := 120) rfl (fun c117 => ?_) (fun c117 => ?_)
      · refine k_aload G X at_122 (pc' := 124) rfl rfl rfl ?_
        refine k_ldcS G X (n := 4) (w81 hw) (strAtoms hw) at_124 (pc' := 126) rfl (by decide) (by decide) (by decide) (by decide) (fun T h124 s124 E124 X => ?_)
        replace O := O.ext E124
        replace S_CS := S_CS.ext E124
        replace S_FM := S_FM.ext E124
        replace A_b18 := A_b18.ext E124
        replace SS := SS.ext E124
        replace X_b70 := X_b70.ext E124
        replace FL := FL.ext E124
        replace FS_ := FS_.ext E124
        refine k_callV G X (argsL := [(.ref s124)]) (rest := []) rfl X_b70 (w82 hw) (w83 hw) (nf_sel (w85 hw)) (w85 hw) (w84 hw) (w19 hw) (w86 hw) (by decide) (lf_next hw b70 s b s124 kb (zf - (1 : Int32)) zf zn cs fm cc o n h124 n0 _ ⟨ge_b70, (List.mem_of_getElem? (i := 0) rfl)⟩ X_b70 FL FS_ SS ne_s_b70 ne_b_b70 S_CS hcs S_FM hfm ho (by omega) hn hn5 hcc (Int32.sub_add_cancel zf 1) (fun q => c117 (of_toInt (by rw [q]; rfl)))) at_126 pd22 rfl (pc' := 129) rfl rfl (wd := 0) rfl (by decide) (by decide) (by decide) (by decide) (fun T h126 v sf126 X q => ?_)
        replace X := W.drop X
        obtain ⟨gt126, sp126, E126, rfl, KN126, hF126, hsp_126, E_lf', FL', FS', SS'⟩ := q
        replace S_CS := Sta_keepL S_CS KN126 (allS (Pln_exa X_b70) (all0))
        replace S_FM := Sta_keepL S_FM KN126 (allS (Pln_exa X_b70) (all0))
        replace O := O.keep KN126 (allS ge_b70 (all0))
        replace A_b18 := A_b18.keep KN126 (by simp only [List.mem_cons, List.not_mem_nil, or_false, not_or]; exact ne_b18_b70)
        replace X_b70 := X_b70.keep KN126
        have FL := FL'
        have FS_ := FS'
        have SS := SS'
        show Go Γ n0 _ T (mkF Γ.m 129 #[.val (.int p0), .val (.int p1), .val (.int p2), .val (.int zn), .val (.int zf), .val (.ref b18), .val (.ref s), .val (.ref b70), .unset, .unset] [(.int gt126)])
        refine k_pop G X at_129 (pc' := 130) rfl rfl ?_
        refine k_aload G X at_130 (pc' := 132) rfl rfl rfl ?_
        refine k_iloadN G X at_132 (pc' := 133) rfl rfl ?_
        refine k_iload G X at_133 (pc' := 135) rfl rfl ?_
        refine k_callS G X (argsL := [(.ref b18), (.int zn), (.int zf)]) (rest := []) rfl (w132 hw) (w133 hw) (w4 hw) (w134 hw) (by decide) (fsp hw b18 k18 zn zf n o cc h126 n0 _ hn ho (by omega) hn5 A_b18) at_135 pd23 rfl (pc' := 138) rfl rfl (wd := 0) rfl (by decide) (by decide) (by decide) (by decide) (fun T h135 v sf135 X q => ?_)
        replace X := W.drop X
        obtain ⟨to135, E135, rfl, hto135, hG135, e135⟩ := q
        replace X := X.eq e135
        obtain rfl := hF126.uniq hG135
        obtain rfl : sp126 = to135 := of_toInt (by rw [hsp_126, hto135])
        have hEb := hF126.2.1; have hEa := hF126.1
        show Go Γ n0 _ T (mkF Γ.m 138 #[.val (.int p0), .val (.int p1), .val (.int p2), .val (.int zn), .val (.int zf), .val (.ref b18), .val (.ref s), .val (.ref b70), .unset, .unset] [(.int sp126)])
        refine k_istore G X at_138 (pc' := 140) rfl (l' := #[.val (.int p0), .val (.int p1), .val (.int p2), .val (.int zn), .val (.int zf), .val (.ref b18), .val (.ref s), .val (.ref b70), .val (.int sp126), .unset]) rfl ?_
        refine k_aload G X at_140 (pc' := 142) rfl rfl rfl ?_
        refine k_callV G X (argsL := []) (rest := []) rfl X_b70 (w30 hw) (w31 hw) (nf_sel (w33 hw)) (w33 hw) (w32 hw) (w19 hw) (w34 hw) (by decide) (lf_has hw b70 s b kb sp126 zn cs cc n h126 n0 _ FL FS_ SS S_CS hcs hn) at_142 pd3 rfl (pc' := 145) rfl rfl (wd := 0) rfl (by decide) (by decide) (by decide) (by decide) (fun T h142 v sf142 X q => ?_)
        replace X := W.drop X
        obtain ⟨mo142, rfl, hm1, hm0, e142⟩ := q
        replace X := X.eq e142
        show Go Γ n0 _ T (mkF Γ.m 145 #[.val (.int p0), .val (.int p1), .val (.int p2), .val (.int zn), .val (.int zf), .val (.ref b18), .val (.ref s), .val (.ref b70), .val (.int sp126), .unset] [(.int mo142)])
        refine k_iload G X at_145 (pc' := 147) rfl rfl ?_
        refine k_iloadN G X at_147 (pc' := 148) rfl rfl ?_
        refine k_icmp_ge G X at_148 (pc' := 155) rfl (by decide) (pc'' := 151) rfl (fun c148 => ?_) (fun c148 => ?_)
        · refine k_iconst G X at_155 (pc' := 156) rfl (z := (0 : Int32)) (by decide) ?_
          refine k_icmp_eq G X at_156 (pc' := 161) rfl (by decide) (pc'' := 159) rfl (fun c156 => ?_) (fun c156 => (absurd c156 (by intro hx; first | exact hx (hm1 (by omega)) | exact hx (hm0 (by omega)))))
          refine k_iload G X at_161 (pc' := 163) rfl rfl ?_
          refine k_iconst G X at_163 (pc' := 164) rfl (z := (1 : Int32)) (by decide) ?_
          refine k_iadd G X at_164 (pc' := 165) rfl rfl ?_
          have hsp1 : (sp126 + (1 : Int32)).toInt = (E126 + 1 : Nat) := by rw [iadd_toInt (by rw [show (1 : Int32).toInt = 1 from rfl]; omega) (by rw [show (1 : Int32).toInt = 1 from rfl]; omega), hsp_126]; rfl
          refine k_iloadN G X at_165 (pc' := 166) rfl rfl ?_
          refine k_icmp_ge G X at_166 (pc' := 181) rfl (by decide) (pc'' := 169) rfl (fun c166 => ?_) (fun c166 => ?_)
          · refine k_iconst G X at_181 (pc' := 182) rfl (z := (1 : Int32)) (by decide) ?_
            refine k_retb G X at_182 (t := .boolean) rfl (by simp) rfl ?_ (by decide) (by decide)
            rfl
          · refine k_aload G X at_169 (pc' := 171) rfl rfl rfl ?_
            refine k_iload G X at_171 (pc' := 173) rfl rfl ?_
            refine k_iconst G X at_173 (pc' := 174) rfl (z := (1 : Int32)) (by decide) ?_
            refine k_iadd G X at_174 (pc' := 175) rfl rfl ?_
            refine k_caload G X (i := (E126 + 1)) (v := (.int (cc (E126 + 1)))) A_b18 hsp1 (by omega) rfl at_175 (pc' := 176) rfl ?_
            refine k_bipush G X at_176 (pc' := 178) rfl (z := (32 : Int32)) (by decide) ?_
            refine k_icmp_ne G X at_178 (pc' := 183) rfl (by decide) (pc'' := 181) rfl (fun c178 => ?_) (fun c178 => ?_)
            · refine k_aload G X at_183 (pc' := 185) rfl rfl rfl ?_
              refine k_ldcS G X (n := 4) (w135 hw) (strAtoms hw) at_185 (pc' := 187) rfl (by decide) (by decide) (by decide) (by decide) (fun T h185 s185 E185 X => ?_)
              replace O := O.ext E185
              replace S_CS := S_CS.ext E185
              replace S_FM := S_FM.ext E185
              replace A_b18 := A_b18.ext E185
              replace X_b70 := X_b70.ext E185
              replace FL := FL.ext E185
              replace FS_ := FS_.ext E185
              replace SS := SS.ext E185
              refine k_callV G X (argsL := [(.ref s185)]) (rest := []) rfl X_b70 (w82 hw) (w83 hw) (nf_sel (w85 hw)) (w85 hw) (w84 hw) (w19 hw) (w86 hw) (by decide) (lf_next hw b70 s b s185 kb sp126 (sp126 + (1 : Int32)) zn cs fm cc (E126 + 1) n h185 n0 _ ⟨ge_b70, (List.mem_of_getElem? (i := 0) rfl)⟩ X_b70 FL FS_ SS ne_s_b70 ne_b_b70 S_CS hcs S_FM hfm hsp1 (by omega) hn hn5 hcc rfl (fun q => c178 (of_toInt (by rw [q]; rfl)))) at_187 pd22 rfl (pc' := 190) rfl rfl (wd := 0) rfl (by decide) (by decide) (by decide) (by decide) (fun T h187 v sf187 X q => ?_)
              replace X := W.drop X
              obtain ⟨gt187, sp187, E187, rfl, KN187, hF187, hsp_187, E_lf', FL', FS', SS'⟩ := q
              replace S_CS := Sta_keepL S_CS KN187 (allS (Pln_exa X_b70) (all0))
              replace S_FM := Sta_keepL S_FM KN187 (allS (Pln_exa X_b70) (all0))
              replace O := O.keep KN187 (allS ge_b70 (all0))
              replace A_b18 := A_b18.keep KN187 (by simp only [List.mem_cons, List.not_mem_nil, or_false, not_or]; exact ne_b18_b70)
              replace X_b70 := X_b70.keep KN187
              have FL := FL'
              have FS_ := FS'
              have SS := SS'
              show Go Γ n0 _ T (mkF Γ.m 190 #[.val (.int p0), .val (.int p1), .val (.int p2), .val (.int zn), .val (.int zf), .val (.ref b18), .val (.ref s), .val (.ref b70), .val (.int sp126), .unset] [(.int gt187)])
              refine k_pop G X at_190 (pc' := 191) rfl rfl ?_
              refine k_aload G X at_191 (pc' := 193) rfl rfl rfl ?_
              refine k_iloadN G X at_193 (pc' := 194) rfl rfl ?_
              refine k_iload G X at_194 (pc' := 196) rfl rfl ?_
              refine k_iconst G X at_196 (pc' := 197) rfl (z := (1 : Int32)) (by decide) ?_
              refine k_iadd G X at_197 (pc' := 198) rfl rfl ?_
              refine k_callS G X (argsL := [(.ref b18), (.int zn), (.int (sp126 + (1 : Int32)))]) (rest := []) rfl (w132 hw) (w133 hw) (w4 hw) (w134 hw) (by decide) (fsp hw b18 k18 zn (sp126 + (1 : Int32)) n (E126 + 1) cc h187 n0 _ hn hsp1 (by omega) hn5 A_b18) at_198 pd23 rfl (pc' := 201) rfl rfl (wd := 0) rfl (by decide) (by decide) (by decide) (by decide) (fun T h198 v sf198 X q => ?_)
              replace X := W.drop X
              obtain ⟨to198, E198, rfl, hto198, hG198, e198⟩ := q
              replace X := X.eq e198
              obtain rfl := hF187.uniq hG198
              obtain rfl : sp187 = to198 := of_toInt (by rw [hsp_187, hto198])
              have hEb := hF187.2.1; have hEa := hF187.1
              show Go Γ n0 _ T (mkF Γ.m 201 #[.val (.int p0), .val (.int p1), .val (.int p2), .val (.int zn), .val (.int zf), .val (.ref b18), .val (.ref s), .val (.ref b70), .val (.int sp126), .unset] [(.int sp187)])
              refine k_istore G X at_201 (pc' := 203) rfl (l' := #[.val (.int p0), .val (.int p1), .val (.int p2), .val (.int zn), .val (.int zf), .val (.ref b18), .val (.ref s), .val (.ref b70), .val (.int sp126), .val (.int sp187)]) rfl ?_
              refine k_aload G X at_203 (pc' := 205) rfl rfl rfl ?_
              refine k_callV G X (argsL := []) (rest := []) rfl X_b70 (w30 hw) (w31 hw) (nf_sel (w33 hw)) (w33 hw) (w32 hw) (w19 hw) (w34 hw) (by decide) (lf_has hw b70 s b kb sp187 zn cs cc n h187 n0 _ FL FS_ SS S_CS hcs hn) at_205 pd3 rfl (pc' := 208) rfl rfl (wd := 0) rfl (by decide) (by decide) (by decide) (by decide) (fun T h205 v sf205 X q => ?_)
              replace X := W.drop X
              obtain ⟨mo205, rfl, hm1, hm0, e205⟩ := q
              replace X := X.eq e205
              show Go Γ n0 _ T (mkF Γ.m 208 #[.val (.int p0), .val (.int p1), .val (.int p2), .val (.int zn), .val (.int zf), .val (.ref b18), .val (.ref s), .val (.ref b70), .val (.int sp126), .val (.int sp187)] [(.int mo205)])
              refine k_iload G X at_208 (pc' := 210) rfl rfl ?_
              refine k_iloadN G X at_210 (pc' := 211) rfl rfl ?_
              refine k_icmp_ge G X at_211 (pc' := 218) rfl (by decide) (pc'' := 214) rfl (fun c211 => ?_) (fun c211 => ?_)
              · refine k_iconst G X at_218 (pc' := 219) rfl (z := (0 : Int32)) (by decide) ?_
                refine k_icmp_ne G X at_219 (pc' := 226) rfl (by decide) (pc'' := 222) rfl (fun c219 => (absurd c219 (by intro hx; first | exact hx (hm1 (by omega)) | exact hx (hm0 (by omega))))) (fun c219 => ?_)
                refine k_iconst G X at_222 (pc' := 223) rfl (z := (1 : Int32)) (by decide) ?_
                refine k_goto G X at_223 (by decide) (pc' := 227) rfl ?_
                refine k_retb G X at_227 (t := .boolean) rfl (by simp) rfl ?_ (by decide) (by decide)
                rfl
              · refine k_iconst G X at_214 (pc' := 215) rfl (z := (1 : Int32)) (by decide) ?_
                refine k_goto G X at_215 (by decide) (pc' := 219) rfl ?_
                refine k_icmp_ne G X at_219 (pc' := 226) rfl (by decide) (pc'' := 222) rfl (fun c219 => (absurd c219 (by intro hx; first | exact hx (hm1 (by omega)) | exact hx (hm0 (by omega))))) (fun c219 => ?_)
                refine k_iconst G X at_222 (pc' := 223) rfl (z := (1 : Int32)) (by decide) ?_
                refine k_goto G X at_223 (by decide) (pc' := 227) rfl ?_
                refine k_retb G X at_227 (t := .boolean) rfl (by simp) rfl ?_ (by decide) (by decide)
                rfl
            · refine k_iconst G X at_181 (pc' := 182) rfl (z := (1 : Int32)) (by decide) ?_
              refine k_retb G X at_182 (t := .boolean) rfl (by simp) rfl ?_ (by decide) (by decide)
              rfl
        · refine k_iconst G X at_151 (pc' := 152) rfl (z := (1 : Int32)) (by decide) ?_
          refine k_goto G X at_152 (by decide) (pc' := 156) rfl ?_
          refine k_icmp_eq G X at_156 (pc' := 161) rfl (by decide) (pc'' := 159) rfl (fun c156 => ?_) (fun c156 => (absurd c156 (by intro hx; first | exact hx (hm1 (by omega)) | exact hx (hm0 (by omega)))))
          refine k_iload G X at_161 (pc' := 163) rfl rfl ?_
          refine k_iconst G X at_163 (pc' := 164) rfl (z := (1 : Int32)) (by decide) ?_
          refine k_iadd G X at_164 (pc' := 165) rfl rfl ?_
          have hsp1 : (sp126 + (1 : Int32)).toInt = (E126 + 1 : Nat) := by rw [iadd_toInt (by rw [show (1 : Int32).toInt = 1 from rfl]; omega) (by rw [show (1 : Int32).toInt = 1 from rfl]; omega), hsp_126]; rfl
          refine k_iloadN G X at_165 (pc' := 166) rfl rfl ?_
          refine k_icmp_ge G X at_166 (pc' := 181) rfl (by decide) (pc'' := 169) rfl (fun c166 => ?_) (fun c166 => ?_)
          · refine k_iconst G X at_181 (pc' := 182) rfl (z := (1 : Int32)) (by decide) ?_
            refine k_retb G X at_182 (t := .boolean) rfl (by simp) rfl ?_ (by decide) (by decide)
            rfl
          · refine k_aload G X at_169 (pc' := 171) rfl rfl rfl ?_
            refine k_iload G X at_171 (pc' := 173) rfl rfl ?_
            refine k_iconst G X at_173 (pc' := 174) rfl (z := (1 : Int32)) (by decide) ?_
            refine k_iadd G X at_174 (pc' := 175) rfl rfl ?_
            refine k_caload G X (i := (E126 + 1)) (v := (.int (cc (E126 + 1)))) A_b18 hsp1 (by omega) rfl at_175 (pc' := 176) rfl ?_
            refine k_bipush G X at_176 (pc' := 178) rfl (z := (32 : Int32)) (by decide) ?_
            refine k_icmp_ne G X at_178 (pc' := 183) rfl (by decide) (pc'' := 181) rfl (fun c178 => ?_) (fun c178 => ?_)
            · refine k_aload G X at_183 (pc' := 185) rfl rfl rfl ?_
              refine k_ldcS G X (n := 4) (w135 hw) (strAtoms hw) at_185 (pc' := 187) rfl (by decide) (by decide) (by decide) (by decide) (fun T h185 s185 E185 X => ?_)
              replace O := O.ext E185
              replace S_CS := S_CS.ext E185
              replace S_FM := S_FM.ext E185
              replace A_b18 := A_b18.ext E185
              replace X_b70 := X_b70.ext E185
              replace FL := FL.ext E185
              replace FS_ := FS_.ext E185
              replace SS := SS.ext E185
              refine k_callV G X (argsL := [(.ref s185)]) (rest := []) rfl X_b70 (w82 hw) (w83 hw) (nf_sel (w85 hw)) (w85 hw) (w84 hw) (w19 hw) (w86 hw) (by decide) (lf_next hw b70 s b s185 kb sp126 (sp126 + (1 : Int32)) zn cs fm cc (E126 + 1) n h185 n0 _ ⟨ge_b70, (List.mem_of_getElem? (i := 0) rfl)⟩ X_b70 FL FS_ SS ne_s_b70 ne_b_b70 S_CS hcs S_FM hfm hsp1 (by omega) hn hn5 hcc rfl (fun q => c178 (of_toInt (by rw [q]; rfl)))) at_187 pd22 rfl (pc' := 190) rfl rfl (wd := 0) rfl (by decide) (by decide) (by decide) (by decide) (fun T h187 v sf187 X q => ?_)
              replace X := W.drop X
              obtain ⟨gt187, sp187, E187, rfl, KN187, hF187, hsp_187, E_lf', FL', FS', SS'⟩ := q
              replace S_CS := Sta_keepL S_CS KN187 (allS (Pln_exa X_b70) (all0))
              replace S_FM := Sta_keepL S_FM KN187 (allS (Pln_exa X_b70) (all0))
              replace O := O.keep KN187 (allS ge_b70 (all0))
              replace A_b18 := A_b18.keep KN187 (by simp only [List.mem_cons, List.not_mem_nil, or_false, not_or]; exact ne_b18_b70)
              replace X_b70 := X_b70.keep KN187
              have FL := FL'
              have FS_ := FS'
              have SS := SS'
              show Go Γ n0 _ T (mkF Γ.m 190 #[.val (.int p0), .val (.int p1), .val (.int p2), .val (.int zn), .val (.int zf), .val (.ref b18), .val (.ref s), .val (.ref b70), .val (.int sp126), .unset] [(.int gt187)])
              refine k_pop G X at_190 (pc' := 191) rfl rfl ?_
              refine k_aload G X at_191 (pc' := 193) rfl rfl rfl ?_
              refine k_iloadN G X at_193 (pc' := 194) rfl rfl ?_
              refine k_iload G X at_194 (pc' := 196) rfl rfl ?_
              refine k_iconst G X at_196 (pc' := 197) rfl (z := (1 : Int32)) (by decide) ?_
              refine k_iadd G X at_197 (pc' := 198) rfl rfl ?_
              refine k_callS G X (argsL := [(.ref b18), (.int zn), (.int (sp126 + (1 : Int32)))]) (rest := []) rfl (w132 hw) (w133 hw) (w4 hw) (w134 hw) (by decide) (fsp hw b18 k18 zn (sp126 + (1 : Int32)) n (E126 + 1) cc h187 n0 _ hn hsp1 (by omega) hn5 A_b18) at_198 pd23 rfl (pc' := 201) rfl rfl (wd := 0) rfl (by decide) (by decide) (by decide) (by decide) (fun T h198 v sf198 X q => ?_)
              replace X := W.drop X
              obtain ⟨to198, E198, rfl, hto198, hG198, e198⟩ := q
              replace X := X.eq e198
              obtain rfl := hF187.uniq hG198
              obtain rfl : sp187 = to198 := of_toInt (by rw [hsp_187, hto198])
              have hEb := hF187.2.1; have hEa := hF187.1
              show Go Γ n0 _ T (mkF Γ.m 201 #[.val (.int p0), .val (.int p1), .val (.int p2), .val (.int zn), .val (.int zf), .val (.ref b18), .val (.ref s), .val (.ref b70), .val (.int sp126), .unset] [(.int sp187)])
              refine k_istore G X at_201 (pc' := 203) rfl (l' := #[.val (.int p0), .val (.int p1), .val (.int p2), .val (.int zn), .val (.int zf), .val (.ref b18), .val (.ref s), .val (.ref b70), .val (.int sp126), .val (.int sp187)]) rfl ?_
              refine k_aload G X at_203 (pc' := 205) rfl rfl rfl ?_
              refine k_callV G X (argsL := []) (rest := []) rfl X_b70 (w30 hw) (w31 hw) (nf_sel (w33 hw)) (w33 hw) (w32 hw) (w19 hw) (w34 hw) (by decide) (lf_has hw b70 s b kb sp187 zn cs cc n h187 n0 _ FL FS_ SS S_CS hcs hn) at_205 pd3 rfl (pc' := 208) rfl rfl (wd := 0) rfl (by decide) (by decide) (by decide) (by decide) (fun T h205 v sf205 X q => ?_)
              replace X := W.drop X
              obtain ⟨mo205, rfl, hm1, hm0, e205⟩ := q
              replace X := X.eq e205
              show Go Γ n0 _ T (mkF Γ.m 208 #[.val (.int p0), .val (.int p1), .val (.int p2), .val (.int zn), .val (.int zf), .val (.ref b18), .val (.ref s), .val (.ref b70), .val (.int sp126), .val (.int sp187)] [(.int mo205)])
              refine k_iload G X at_208 (pc' := 210) rfl rfl ?_
              refine k_iloadN G X at_210 (pc' := 211) rfl rfl ?_
              refine k_icmp_ge G X at_211 (pc' := 218) rfl (by decide) (pc'' := 214) rfl (fun c211 => ?_) (fun c211 => ?_)
              · refine k_iconst G X at_218 (pc' := 219) rfl (z := (0 : Int32)) (by decide) ?_
                refine k_icmp_ne G X at_219 (pc' := 226) rfl (by decide) (pc'' := 222) rfl (fun c219 => (absurd c219 (by intro hx; first | exact hx (hm1 (by omega)) | exact hx (hm0 (by omega))))) (fun c219 => ?_)
                refine k_iconst G X at_222 (pc' := 223) rfl (z := (1 : Int32)) (by decide) ?_
                refine k_goto G X at_223 (by decide) (pc' := 227) rfl ?_
                refine k_retb G X at_227 (t := .boolean) rfl (by simp) rfl ?_ (by decide) (by decide)
                rfl
              · refine k_iconst G X at_214 (pc' := 215) rfl (z := (1 : Int32)) (by decide) ?_
                refine k_goto G X at_215 (by decide) (pc' := 219) rfl ?_
                refine k_icmp_ne G X at_219 (pc' := 226) rfl (by decide) (pc'' := 222) rfl (fun c219 => (absurd c219 (by intro hx; first | exact hx (hm1 (by omega)) | exact hx (hm0 (by omega))))) (fun c219 => ?_)
                refine k_iconst G X at_222 (pc' := 223) rfl (z := (1 : Int32)) (by decide) ?_
                refine k_goto G X at_223 (by decide) (pc' := 227) rfl ?_
                refine k_retb G X at_227 (t := .boolean) rfl (by simp) rfl ?_ (by decide) (by decide)
                rfl
            · refine k_iconst G X at_181 (pc' := 182) rfl (z := (1 : Int32)) (by decide) ?_
              refine k_retb G X at_182 (t := .boolean) rfl (by simp) rfl ?_ (by decide) (by decide)
              rfl
      · refine k_iconst G X at_120 (pc' := 121) rfl (z := (1 : Int32)) (by decide) ?_
        refine k_retb G X at_121 (t := .boolean) rfl (by simp) rfl ?_ (by decide) (by decide)
        rfl
set_option maxRecDepth 65536 in
set_option maxHeartbeats 40000000 in
theorem comes_1 {Post : Tables → Env → Array Value → State → Outcome → State → Prop} (hpost : ∀ tb e args s v u, (limb_1_1.after args s (.returned v) u = true ∧ limb_1_2.after args s (.returned v) u = true ∧ True) → ReturnedEndW s (.returned v) u (Jvm.fieldLocs frame_1_writes args s ++ Jvm.arrayLocs frame_1_arrays args s ++ Jvm.staticLocs frame_1_statics s) 24 3200 → Post tb e args s (.returned v) u) :
    ArmFor flags0 classFile x code maxLocals ret World_1 tables_1 room_1 Calls_1 rest_1 Pre_1 Post := by
  intro l hfl _ _ p e ha hc hk s m args below hf hA hF happ hP
  obtain ⟨hcalls, hrest, hpre⟩ := hP
  obtain ⟨-, -, -, hnamed, -, -, -, hat⟩ := (Spec.applies_iff hf).mp happ
  obtain ⟨hg, hn⟩ := and_e (Cond.before_iff.mp (show (Jvm.Cond.and given_1 narrow_1).before args s = true from hpre))
  obtain ⟨hg0, hgr0⟩ := and_e hg
  obtain ⟨hg1, hgr1⟩ := and_e hgr0
  obtain ⟨hg2, hgr2⟩ := and_e hgr1
  obtain ⟨w0', w1', w2', rfl⟩ : ∃ w0' w1' w2' : Value, args = #[w0', w1', w2'] := by
    have hs : args.size = 3 := by simpa [Cond.value, given_1] using hg0
    obtain ⟨L⟩ := args
    match L, hs with
    | [w0', w1', w2'], _ => exact ⟨w0', w1', w2', rfl⟩
  have hw : HW _ s := fun d (hd : d ∈ tables_1) => atoms_spec (ws := Jvm.Cond.code x code maxLocals ret :: tables_1) hat d (List.mem_cons_of_mem _ hd)
  have hfit : Fit s := fun {y c} hc i hi => by
    obtain ⟨ha, rfl⟩ := Array.getElem?_eq_some_iff.mp hc
    have q := List.all_eq_true.mp ((Array.all_eq_true_iff_forall_mem.mp hF) _ (Array.getElem_mem ha)) i (List.mem_range.mpr hi)
    simpa [Array.getElem?_eq_getElem hi] using q
  obtain ⟨hsets, hown0⟩ := atoms_of _ (rest_1_c_eq ▸ (show rest_1_c.before _ s = true from hrest))
  have hr0 := Cond.before_iff.mp hown0
  obtain ⟨i0, ei0⟩ := is_v hg1
  obtain rfl : w0' = (.int i0) := Option.some.inj ei0
  obtain ⟨i1, ei1⟩ := is_v hg2
  obtain rfl : w1' = (.int i1) := Option.some.inj ei1
  obtain ⟨i2, ei2⟩ := is_v hgr2
  obtain rfl : w2' = (.int i2) := Option.some.inj ei2
  have hcw := hsets _ (List.mem_of_getElem? (i := 2) rfl)
  obtain ⟨cs, S_CS, hcs⟩ := s_cs (hsets _ (List.mem_of_getElem? (i := 0) rfl)) (hsets _ (List.mem_of_getElem? (i := 1) rfl)) (hsets _ (List.mem_of_getElem? (i := 2) rfl))
  obtain ⟨fm, S_FM, hfm⟩ := s_isRef (hsets _ (List.mem_of_getElem? (i := 7) rfl)) (hsets _ (List.mem_of_getElem? (i := 8) rfl))
  obtain ⟨n, o, h1, h2, h3, _, L, rfl, ⟨⟨_, rfl, -⟩, N⟩, -, hq⟩ := rm0 hw i0 i1 i2 cs fm s.heap s.heap.size (Old.start s) S_CS hcs S_FM hfm l p e ha hc hk s m _ below hf ((Spec.applies_iff_loose hf).mp happ).1 ⟨rfl, State.Warmed39.refl s, rfl, CHv.start (hEW hw).choose_spec (fun p hp => hcalls.1 p hp) hcw (hw _ (List.mem_of_getElem? (i := 12) rfl)) (hw _ (List.mem_of_getElem? (i := 11) rfl)), fun x hx => by cases hx⟩ trivial
  exact ⟨n, _, h1, h2, h3, hpost _ _ _ _ _ _ ⟨Cond.after_iff.mpr rfl, Cond.after_iff.mpr (eq_i res_at (Term.int_eval (1)) rfl), trivial⟩ ⟨hq.1, hq.2.1, hq.2.2.1, (hq.2.2.2.sift fun y hy => Or.inr (N y hy)).mono (by decide) (by decide)⟩⟩
theorem main_1_1 : Claimed_1_1 := comes_1 fun _ _ _ _ _ _ h hF => ⟨h.1, hF⟩
theorem main_1_2 : Claimed_1_2 := comes_1 fun _ _ _ _ _ _ h hF => ⟨h.2.1, hF⟩
end Jvm.Pilot.@@N@@
namespace Jvm.Pilot.@@N@@
open Jvm Jvm.ClassFile Sem Op Lib Jvm.Free Jvm.Stand Jvm.Pilot.@@N@@.Jvm.D
/-! MADE BY PROGRAM (witnessworld.py) out of the Statement's table words and the real class files: 21 classes; the members and pool entries that the words name. The judged class is class 1, her method 4. -/
namespace start1
open Jvm.ClassFile
def u (s : String) : CpInfo := .utf8 (stringToUtf16 s)
/-- a pool by its gaps: so many unusable entries, then the entry; so many at the end -/
def gap : Nat → List CpInfo → List CpInfo
  | 0, r => r
  | n + 1, r => .unusable :: gap n r
def poolList (es : List (Nat × CpInfo)) (last : Nat) : List CpInfo := es.foldr (fun e r => gap e.1 (e.2 :: r)) (gap last [])
def pool (es : List (Nat × CpInfo)) (last : Nat) : Array CpInfo := ⟨poolList es last⟩
def fileOf (pool : Array CpInfo) (this : Nat) (attrs : Array Attribute := #[]) (ms : Array MethodInfo := #[]) (fl : Nat := 33) (sup : Nat := 0) (ifs : Array Nat := #[]) (fds : Array FieldInfo := #[]) : ClassFile where
  minorVersion := 0
  majorVersion := 65
  constantPool := pool
  accessFlags := fl
  thisClass := this
  superClass := sup
  interfaces := ifs
  fields := fds
  methods := ms
  attributes := attrs
def plain (name : String) (sup : Option ClassId) : Class where
  name := name
  kind := .ordinary
  loader := none
  accessFlags := 33
  super := sup
  interfaces := #[]
  cf := none
  fields := #[]
  methods := #[]
  instanceTypes := #[]
  staticTypes := #[]
  resolved := #[]
  callSites := []
  init := .initialized
  statics := none
  mirror := none

def pool0 : Array CpInfo := pool [(5, u "<init>"), (0, u "()V"), (1, .class_ 10), (1, u "java/lang/Object")] 113

def k0c0 : Code := { maxStack := 0, maxLocals := 1, code := object_method_1_code, exceptionTable := #[], attributes := #[] }
def k0m0 : Method := { name := "<init>", desc := "()V", sig := { parameters := [], returnType := none }, accessFlags := 1, code := some k0c0 }
/-- java/lang/Object -/
def k0 : Class := { plain "java/lang/Object" none with
  accessFlags := 33
  interfaces := #[]
  cf := some (fileOf pool0 8 #[] #[{ accessFlags := 1, nameIndex := 5, descriptorIndex := 6, attributes := #[] }] 33 0 #[] #[])
  fields := #[]
  methods := #[k0m0]
  instanceTypes := #[]
  staticTypes := #[]
  resolved := Array.replicate 124 none
  statics := none }

def pool1 : Array CpInfo := pool [(2, .class_ 4), (1, u "java/lang/Object"), (0, u "<init>"), (0, u "()V"), (0, .string 8), (0, u ""), (0, .methodref 10 11), (0, .class_ 12), (0, .nameAndType 13 14), (0, u "java/lang/String"), (0, u "valueOf"), (0, u "(C)Ljava/lang/String;"), (0, .methodref 10 16), (0, .nameAndType 5 17), (0, u "([C)V"), (0, .integer 2147483647), (0, .methodref 20 21), (0, .class_ 22), (0, .nameAndType 23 24), (0, u "com/example/libinvariant/libinvariant/aiger/LineFieldsHasNextPinLaw"), (0, u "ch"), (0, u "(II)C"), (0, .methodref 20 26), (0, .nameAndType 27 28), (0, u "str"), (0, u "([CI)Ljava/lang/String;"), (0, .class_ 30), (0, u "com/example/libinvariant/libinvariant/aiger/LineFields"), (0, .methodref 29 32), (0, .nameAndType 5 33), (0, u "(Ljava/lang/String;I)V"), (0, .methodref 29 35), (0, .nameAndType 36 37), (0, u "hasNext"), (0, u "()Z"), (0, .string 39), (0, u "f"), (0, .methodref 29 41), (0, .nameAndType 42 43), (0, u "next"), (0, u "(Ljava/lang/String;)I"), (0, .methodref 20 45), (0, .nameAndType 46 47), (0, u "firstSpace"), (0, u "([CII)I"), (0, .string 49), (0, u "g"), (3, u "law"), (0, u "(III)Z")] 7

def k1m0 : Method := { name := "<init>", desc := "()V", sig := { parameters := [], returnType := none }, accessFlags := 2, code := none }
def k1c1 : Code := { maxStack := 5, maxLocals := 2, code := method_2_code, exceptionTable := #[], attributes := #[] }
def k1m1 : Method := { name := "ch", desc := "(II)C", sig := { parameters := [.int, .int], returnType := some .char }, accessFlags := 10, code := some k1c1 }
def k1c2 : Code := { maxStack := 7, maxLocals := 2, code := method_3_code, exceptionTable := #[], attributes := #[] }
def k1m2 : Method := { name := "str", desc := "([CI)Ljava/lang/String;", sig := { parameters := [(.array .char), .int], returnType := some (.object "java/lang/String") }, accessFlags := 10, code := some k1c2 }
def k1c3 : Code := { maxStack := 2, maxLocals := 3, code := method_4_code, exceptionTable := #[], attributes := #[] }
def k1m3 : Method := { name := "firstSpace", desc := "([CII)I", sig := { parameters := [(.array .char), .int, .int], returnType := some .int }, accessFlags := 10, code := some k1c3 }
def k1c4 : Code := { maxStack := 5, maxLocals := 10, code := code, exceptionTable := #[], attributes := #[] }
def k1m4 : Method := { name := "law", desc := "(III)Z", sig := { parameters := [.int, .int, .int], returnType := some .boolean }, accessFlags := 9, code := some k1c4 }
/-- com/example/libinvariant/libinvariant/aiger/LineFieldsHasNextPinLaw -/
def k1 : Class := { plain "com/example/libinvariant/libinvariant/aiger/LineFieldsHasNextPinLaw" (some 0) with
  accessFlags := 49
  interfaces := #[]
  cf := some (fileOf pool1 20 #[] #[{ accessFlags := 2, nameIndex := 5, descriptorIndex := 6, attributes := #[] }, { accessFlags := 10, nameIndex := 23, descriptorIndex := 24, attributes := #[] }, { accessFlags := 10, nameIndex := 27, descriptorIndex := 28, attributes := #[] }, { accessFlags := 10, nameIndex := 46, descriptorIndex := 47, attributes := #[] }, { accessFlags := 9, nameIndex := 53, descriptorIndex := 54, attributes := #[] }] 49 2 #[] #[])
  fields := #[]
  methods := #[k1m0, k1m1, k1m2, k1m3, k1m4]
  instanceTypes := #[]
  staticTypes := #[]
  resolved := Array.replicate 62 none
  statics := none }

def pool2 : Array CpInfo := pool [(1, .class_ 2), (0, u "java/io/Serializable"), (0, .class_ 4), (0, u "java/lang/Object")] 2

/-- java/io/Serializable -/
def k2 : Class := { plain "java/io/Serializable" (some 0) with
  accessFlags := 1537
  interfaces := #[]
  cf := some (fileOf pool2 1 #[] #[] 1537 3 #[] #[])
  fields := #[]
  methods := #[]
  instanceTypes := #[]
  staticTypes := #[]
  resolved := Array.replicate 7 none
  statics := none }

def pool3 : Array CpInfo := pool [(1, .class_ 2), (0, u "java/lang/Comparable"), (0, .class_ 4), (0, u "java/lang/Object")] 7

/-- java/lang/Comparable -/
def k3 : Class := { plain "java/lang/Comparable" (some 0) with
  accessFlags := 1537
  interfaces := #[]
  cf := some (fileOf pool3 1 #[] #[] 1537 3 #[] #[])
  fields := #[]
  methods := #[]
  instanceTypes := #[]
  staticTypes := #[]
  resolved := Array.replicate 12 none
  statics := none }

def pool4 : Array CpInfo := pool [(2, .class_ 4), (1, u "java/lang/CharSequence"), (42, .class_ 48), (0, u "java/lang/CharSequence$1CodePointIterator"), (10, .class_ 60), (0, u "java/lang/CharSequence$1CharIterator"), (5, .class_ 67), (0, u "java/lang/Object")] 63

/-- java/lang/CharSequence -/
def k4 : Class := { plain "java/lang/CharSequence" (some 0) with
  accessFlags := 1537
  interfaces := #[]
  cf := some (fileOf pool4 2 #[.nestMembers #[47, 59]] #[] 1537 66 #[] #[])
  fields := #[]
  methods := #[]
  instanceTypes := #[]
  staticTypes := #[]
  resolved := Array.replicate 131 none
  statics := none }

def pool5 : Array CpInfo := pool [(1, .class_ 2), (0, u "java/lang/constant/Constable"), (0, .class_ 4), (0, u "java/lang/Object")] 6

/-- java/lang/constant/Constable -/
def k5 : Class := { plain "java/lang/constant/Constable" (some 0) with
  accessFlags := 1537
  interfaces := #[]
  cf := some (fileOf pool5 1 #[] #[] 1537 3 #[] #[])
  fields := #[]
  methods := #[]
  instanceTypes := #[]
  staticTypes := #[]
  resolved := Array.replicate 11 none
  statics := none }

def pool6 : Array CpInfo := pool [(1, .class_ 2), (0, u "java/lang/constant/ConstantDesc"), (0, .class_ 4), (0, u "java/lang/Object")] 32

/-- java/lang/constant/ConstantDesc -/
def k6 : Class := { plain "java/lang/constant/ConstantDesc" (some 0) with
  accessFlags := 1537
  interfaces := #[]
  cf := some (fileOf pool6 1 #[] #[] 1537 3 #[] #[])
  fields := #[]
  methods := #[]
  instanceTypes := #[]
  staticTypes := #[]
  resolved := Array.replicate 37 none
  statics := none }

def pool7 : Array CpInfo := pool [(1, .methodref 2 3), (0, .class_ 4), (0, .nameAndType 5 6), (0, u "java/lang/Object"), (0, u "<init>"), (0, u "()V"), (2, .fieldref 10 11), (0, .class_ 12), (0, .nameAndType 13 14), (0, u "java/lang/String"), (0, u "value"), (0, u "[B"), (0, .fieldref 10 16), (0, .nameAndType 17 18), (0, u "coder"), (0, u "B"), (2, u "hash"), (0, u "I"), (2, u "hashIsZero"), (0, u "Z"), (0, .methodref 10 28), (0, .nameAndType 5 29), (0, u "([CIILjava/lang/Void;)V"), (8, .fieldref 10 39), (0, .nameAndType 40 26), (0, u "COMPACT_STRINGS"), (1, .class_ 44), (1, u "java/lang/StringUTF16"), (0, u "compress"), (1, .methodref 42 48), (0, .nameAndType 49 50), (0, u "coderFromArrayLen"), (0, u "([BI)B"), (2, u "toBytes"), (53, .class_ 109), (1, u "java/lang/StringLatin1"), (32, u "()Z"), (34, .methodref 42 178), (0, .nameAndType 45 179), (0, u "([CII)[B"), (29, .methodref 10 210), (0, .nameAndType 5 211), (0, u "([BB)V"), (122, u "()I"), (0, .methodref 10 336), (0, .nameAndType 17 337), (0, u "()B"), (25, u "([BI)C"), (5, u "(C)Z"), (21, u "(II)V"), (35, u "(I)C"), (64, .methodref 10 493), (0, .nameAndType 494 142), (0, u "isLatin1"), (0, .methodref 107 496), (0, .nameAndType 497 363), (0, u "charAt"), (3, u "checkIndex"), (3, .methodref 10 506), (0, .nameAndType 507 334), (0, u "length"), (67, .class_ 576), (0, u "java/lang/CharSequence"), (22, u "CASE_INSENSITIVE_ORDER"), (0, u "Ljava/util/Comparator;"), (34, u "indexOf"), (0, u "(II)I"), (0, .methodref 107 638), (0, .nameAndType 635 639), (0, u "([BIII)I"), (142, u "valueOf"), (0, u "(C)Ljava/lang/String;"), (226, u "([C)V"), (4, .methodref 107 1016), (0, .nameAndType 1017 369), (0, u "canEncode"), (0, .methodref 107 1019), (0, .nameAndType 53 1020), (0, u "(C)[B"), (32, .fieldref 1054 1055), (0, .class_ 1056), (0, .nameAndType 1057 1058), (0, u "jdk/internal/util/Preconditions"), (0, u "SIOOBE_FORMATTER"), (0, u "Ljava/util/function/BiFunction;"), (0, .methodref 1054 1060), (0, .nameAndType 501 1061), (0, u "(IILjava/util/function/BiFunction;)I"), (39, u "serialPersistentFields"), (0, u "[Ljava/io/ObjectStreamField;"), (0, .class_ 1104), (0, u "java/lang/String$CaseInsensitiveComparator"), (1, .class_ 1107), (0, u "java/io/Serializable"), (0, .class_ 1109), (0, u "java/lang/Comparable"), (0, .class_ 1111), (0, u "java/lang/constant/Constable"), (0, .class_ 1113), (0, u "java/lang/constant/ConstantDesc"), (2, u "serialVersionUID"), (0, u "J"), (3, u "REPL"), (0, u "C"), (2, u "LATIN1"), (1, u "UTF16")] 323

def k7m0 : Method := { name := "<init>", desc := "()V", sig := { parameters := [], returnType := none }, accessFlags := 1, code := none }
def k7c1 : Code := { maxStack := 5, maxLocals := 2, code := jdk_42_method_3_code, exceptionTable := #[], attributes := #[] }
def k7m1 : Method := { name := "<init>", desc := "([C)V", sig := { parameters := [(.array .char)], returnType := none }, accessFlags := 1, code := some k7c1 }
def k7c2 : Code := { maxStack := 2, maxLocals := 1, code := jdk_42_method_54_code, exceptionTable := #[], attributes := #[] }
def k7m2 : Method := { name := "length", desc := "()I", sig := { parameters := [], returnType := some .int }, accessFlags := 1, code := some k7c2 }
def k7c3 : Code := { maxStack := 2, maxLocals := 2, code := jdk_42_method_56_code, exceptionTable := #[], attributes := #[] }
def k7m3 : Method := { name := "charAt", desc := "(I)C", sig := { parameters := [.int], returnType := some .char }, accessFlags := 1, code := some k7c3 }
def k7c4 : Code := { maxStack := 4, maxLocals := 3, code := jdk_42_method_80_code, exceptionTable := #[], attributes := #[] }
def k7m4 : Method := { name := "indexOf", desc := "(II)I", sig := { parameters := [.int, .int], returnType := some .int }, accessFlags := 1, code := some k7c4 }
def k7c5 : Code := { maxStack := 4, maxLocals := 1, code := jdk_42_method_139_code, exceptionTable := #[], attributes := #[] }
def k7m5 : Method := { name := "valueOf", desc := "(C)Ljava/lang/String;", sig := { parameters := [.char], returnType := some (.object "java/lang/String") }, accessFlags := 9, code := some k7c5 }
def k7c6 : Code := { maxStack := 4, maxLocals := 6, code := jdk_42_method_149_code, exceptionTable := #[], attributes := #[] }
def k7m6 : Method := { name := "<init>", desc := "([CIILjava/lang/Void;)V", sig := { parameters := [(.array .char), .int, .int, (.object "java/lang/Void")], returnType := none }, accessFlags := 2, code := some k7c6 }
def k7c7 : Code := { maxStack := 2, maxLocals := 3, code := jdk_42_method_151_code, exceptionTable := #[], attributes := #[] }
def k7m7 : Method := { name := "<init>", desc := "([BB)V", sig := { parameters := [(.array .byte), .byte], returnType := none }, accessFlags := 0, code := some k7c7 }
def k7c8 : Code := { maxStack := 1, maxLocals := 1, code := jdk_42_method_152_code, exceptionTable := #[], attributes := #[] }
def k7m8 : Method := { name := "coder", desc := "()B", sig := { parameters := [], returnType := some .byte }, accessFlags := 0, code := some k7c8 }
def k7c9 : Code := { maxStack := 1, maxLocals := 1, code := jdk_42_method_154_code, exceptionTable := #[], attributes := #[] }
def k7m9 : Method := { name := "isLatin1", desc := "()Z", sig := { parameters := [], returnType := some .boolean }, accessFlags := 0, code := some k7c9 }
def k7c10 : Code := { maxStack := 3, maxLocals := 2, code := jdk_42_method_155_code, exceptionTable := #[], attributes := #[] }
def k7m10 : Method := { name := "checkIndex", desc := "(II)V", sig := { parameters := [.int, .int], returnType := none }, accessFlags := 8, code := some k7c10 }
/-- java/lang/String -/
def k7 : Class := { plain "java/lang/String" (some 0) with
  accessFlags := 49
  interfaces := #[2, 3, 4, 5, 6]
  cf := some (fileOf pool7 10 #[.nestMembers #[1103]] #[{ accessFlags := 1, nameIndex := 5, descriptorIndex := 6, attributes := #[] }, { accessFlags := 1, nameIndex := 5, descriptorIndex := 1010, attributes := #[] }, { accessFlags := 1, nameIndex := 507, descriptorIndex := 334, attributes := #[] }, { accessFlags := 1, nameIndex := 497, descriptorIndex := 427, attributes := #[] }, { accessFlags := 1, nameIndex := 635, descriptorIndex := 636, attributes := #[] }, { accessFlags := 9, nameIndex := 782, descriptorIndex := 783, attributes := #[] }, { accessFlags := 2, nameIndex := 5, descriptorIndex := 29, attributes := #[] }, { accessFlags := 0, nameIndex := 5, descriptorIndex := 211, attributes := #[] }, { accessFlags := 0, nameIndex := 17, descriptorIndex := 337, attributes := #[] }, { accessFlags := 0, nameIndex := 494, descriptorIndex := 142, attributes := #[] }, { accessFlags := 8, nameIndex := 501, descriptorIndex := 391, attributes := #[] }] 49 2 #[1106, 1108, 575, 1110, 1112] #[{ accessFlags := 18, nameIndex := 13, descriptorIndex := 14, attributes := #[] }, { accessFlags := 18, nameIndex := 17, descriptorIndex := 18, attributes := #[] }, { accessFlags := 2, nameIndex := 21, descriptorIndex := 22, attributes := #[] }, { accessFlags := 2, nameIndex := 25, descriptorIndex := 26, attributes := #[] }, { accessFlags := 26, nameIndex := 1116, descriptorIndex := 1117, attributes := #[] }, { accessFlags := 24, nameIndex := 40, descriptorIndex := 26, attributes := #[] }, { accessFlags := 26, nameIndex := 1101, descriptorIndex := 1102, attributes := #[] }, { accessFlags := 26, nameIndex := 1121, descriptorIndex := 1122, attributes := #[] }, { accessFlags := 25, nameIndex := 599, descriptorIndex := 600, attributes := #[] }, { accessFlags := 24, nameIndex := 1125, descriptorIndex := 18, attributes := #[] }, { accessFlags := 24, nameIndex := 1127, descriptorIndex := 18, attributes := #[] }])
  fields := #[{ name := "value", type := (.array .byte), accessFlags := 18, slot := 0, constantValue := 0 }, { name := "coder", type := .byte, accessFlags := 18, slot := 1, constantValue := 0 }, { name := "hash", type := .int, accessFlags := 2, slot := 2, constantValue := 0 }, { name := "hashIsZero", type := .boolean, accessFlags := 2, slot := 3, constantValue := 0 }, { name := "serialVersionUID", type := .long, accessFlags := 26, slot := 0, constantValue := 0 }, { name := "COMPACT_STRINGS", type := .boolean, accessFlags := 24, slot := 1, constantValue := 0 }, { name := "serialPersistentFields", type := (.array (.object "java/io/ObjectStreamField")), accessFlags := 26, slot := 2, constantValue := 0 }, { name := "REPL", type := .char, accessFlags := 26, slot := 3, constantValue := 0 }, { name := "CASE_INSENSITIVE_ORDER", type := (.object "java/util/Comparator"), accessFlags := 25, slot := 4, constantValue := 0 }, { name := "LATIN1", type := .byte, accessFlags := 24, slot := 5, constantValue := 0 }, { name := "UTF16", type := .byte, accessFlags := 24, slot := 6, constantValue := 0 }]
  methods := #[k7m0, k7m1, k7m2, k7m3, k7m4, k7m5, k7m6, k7m7, k7m8, k7m9, k7m10]
  instanceTypes := #[(.array .byte), .byte, .int, .boolean]
  staticTypes := #[.long, .boolean, (.array (.object "java/io/ObjectStreamField")), .char, (.object "java/util/Comparator"), .byte, .byte]
  resolved := Array.replicate 1451 none
  statics := some 0 }

def pool8 : Array CpInfo := pool [(1, .methodref 2 3), (0, .class_ 4), (0, .nameAndType 5 6), (0, u "java/lang/Object"), (0, u "<init>"), (0, u "()V"), (0, .fieldref 8 9), (0, .class_ 10), (0, .nameAndType 11 12), (0, u "com/example/libinvariant/libinvariant/aiger/LineFields"), (0, u "line"), (0, u "Ljava/lang/String;"), (0, .fieldref 8 14), (0, .nameAndType 15 16), (0, u "space"), (0, u "I"), (0, .methodref 18 19), (0, .class_ 20), (0, .nameAndType 21 22), (0, u "java/lang/String"), (0, u "length"), (0, u "()I"), (0, .methodref 18 24), (0, .nameAndType 25 26), (0, u "indexOf"), (0, u "(II)I"), (9, .methodref 18 37), (0, .nameAndType 38 39), (0, u "charAt"), (0, u "(I)C"), (1, .long 10), (3, .long 2147483647), (2, u "(Ljava/lang/String;I)V"), (2, u "hasNext"), (0, u "()Z"), (1, u "next"), (0, u "(Ljava/lang/String;)I")] 22

def k8c0 : Code := { maxStack := 3, maxLocals := 3, code := prog_13_method_1_code, exceptionTable := #[], attributes := #[] }
def k8m0 : Method := { name := "<init>", desc := "(Ljava/lang/String;I)V", sig := { parameters := [(.object "java/lang/String"), .int], returnType := none }, accessFlags := 0, code := some k8c0 }
def k8c1 : Code := { maxStack := 2, maxLocals := 1, code := prog_13_method_2_code, exceptionTable := #[], attributes := #[] }
def k8m1 : Method := { name := "hasNext", desc := "()Z", sig := { parameters := [], returnType := some .boolean }, accessFlags := 0, code := some k8c1 }
def k8c2 : Code := { maxStack := 4, maxLocals := 8, code := prog_13_method_3_code, exceptionTable := #[], attributes := #[] }
def k8m2 : Method := { name := "next", desc := "(Ljava/lang/String;)I", sig := { parameters := [(.object "java/lang/String")], returnType := some .int }, accessFlags := 0, code := some k8c2 }
/-- com/example/libinvariant/libinvariant/aiger/LineFields -/
def k8 : Class := { plain "com/example/libinvariant/libinvariant/aiger/LineFields" (some 0) with
  accessFlags := 48
  interfaces := #[]
  cf := some (fileOf pool8 8 #[] #[{ accessFlags := 0, nameIndex := 5, descriptorIndex := 48, attributes := #[] }, { accessFlags := 0, nameIndex := 51, descriptorIndex := 52, attributes := #[] }, { accessFlags := 0, nameIndex := 54, descriptorIndex := 55, attributes := #[] }] 48 2 #[] #[{ accessFlags := 18, nameIndex := 11, descriptorIndex := 12, attributes := #[] }, { accessFlags := 2, nameIndex := 15, descriptorIndex := 16, attributes := #[] }])
  fields := #[{ name := "line", type := (.object "java/lang/String"), accessFlags := 18, slot := 0, constantValue := 0 }, { name := "space", type := .int, accessFlags := 2, slot := 1, constantValue := 0 }]
  methods := #[k8m0, k8m1, k8m2]
  instanceTypes := #[(.object "java/lang/String"), .int]
  staticTypes := #[]
  resolved := Array.replicate 78 none
  statics := none }

def pool9 : Array CpInfo := pool [(1, .class_ 2), (0, u "java/lang/String"), (1, .class_ 6), (1, u "java/lang/Object"), (0, u "<init>"), (0, u "()V"), (0, .methodref 1 10), (0, .nameAndType 11 12), (0, u "checkIndex"), (0, u "(II)V"), (1, .class_ 16), (1, u "java/lang/StringLatin1"), (21, .methodref 39 40), (0, .class_ 41), (0, .nameAndType 42 43), (0, u "java/lang/Math"), (0, u "min"), (0, u "(II)I"), (9, u "([BI)C"), (34, .methodref 14 89), (0, .nameAndType 90 91), (0, u "canEncode"), (0, u "(I)Z"), (0, .methodref 39 93), (0, .nameAndType 94 43), (0, u "max"), (0, .methodref 14 96), (0, .nameAndType 97 98), (0, u "indexOfChar"), (0, u "([BIII)I"), (2, u "indexOf"), (3, u "(C)Z"), (15, u "$assertionsDisabled"), (0, u "Z"), (98, .class_ 223), (1, u "java/lang/StringLatin1$LinesSpliterator"), (28, u "charAt"), (127, u "toBytes"), (1, u "(C)[B"), (7, .class_ 391), (0, u "java/lang/StringLatin1$CharsSpliterator")] 3

def k9m0 : Method := { name := "<init>", desc := "()V", sig := { parameters := [], returnType := none }, accessFlags := 0, code := none }
def k9c1 : Code := { maxStack := 2, maxLocals := 2, code := jdk_43_method_2_code, exceptionTable := #[], attributes := #[] }
def k9m1 : Method := { name := "charAt", desc := "([BI)C", sig := { parameters := [(.array .byte), .int], returnType := some .char }, accessFlags := 9, code := some k9c1 }
def k9c2 : Code := { maxStack := 2, maxLocals := 1, code := jdk_43_method_3_code, exceptionTable := #[], attributes := #[] }
def k9m2 : Method := { name := "canEncode", desc := "(C)Z", sig := { parameters := [.char], returnType := some .boolean }, accessFlags := 9, code := some k9c2 }
def k9c3 : Code := { maxStack := 2, maxLocals := 1, code := jdk_43_method_4_code, exceptionTable := #[], attributes := #[] }
def k9m3 : Method := { name := "canEncode", desc := "(I)Z", sig := { parameters := [.int], returnType := some .boolean }, accessFlags := 9, code := some k9c3 }
def k9c4 : Code := { maxStack := 4, maxLocals := 4, code := jdk_43_method_22_code, exceptionTable := #[], attributes := #[] }
def k9m4 : Method := { name := "indexOf", desc := "([BIII)I", sig := { parameters := [(.array .byte), .int, .int, .int], returnType := some .int }, accessFlags := 9, code := some k9c4 }
def k9c5 : Code := { maxStack := 2, maxLocals := 6, code := jdk_43_method_23_code, exceptionTable := #[], attributes := #[] }
def k9m5 : Method := { name := "indexOfChar", desc := "([BIII)I", sig := { parameters := [(.array .byte), .int, .int, .int], returnType := some .int }, accessFlags := 10, code := some k9c5 }
def k9c6 : Code := { maxStack := 4, maxLocals := 1, code := jdk_43_method_46_code, exceptionTable := #[], attributes := #[] }
def k9m6 : Method := { name := "toBytes", desc := "(C)[B", sig := { parameters := [.char], returnType := some (.array .byte) }, accessFlags := 9, code := some k9c6 }
/-- java/lang/StringLatin1 -/
def k9 : Class := { plain "java/lang/StringLatin1" (some 0) with
  accessFlags := 48
  interfaces := #[]
  cf := some (fileOf pool9 14 #[.nestMembers #[390, 221]] #[{ accessFlags := 0, nameIndex := 7, descriptorIndex := 8, attributes := #[] }, { accessFlags := 9, nameIndex := 252, descriptorIndex := 53, attributes := #[] }, { accessFlags := 9, nameIndex := 90, descriptorIndex := 105, attributes := #[] }, { accessFlags := 9, nameIndex := 90, descriptorIndex := 91, attributes := #[] }, { accessFlags := 9, nameIndex := 101, descriptorIndex := 98, attributes := #[] }, { accessFlags := 10, nameIndex := 97, descriptorIndex := 98, attributes := #[] }, { accessFlags := 9, nameIndex := 380, descriptorIndex := 382, attributes := #[] }] 48 4 #[] #[{ accessFlags := 4120, nameIndex := 121, descriptorIndex := 122, attributes := #[] }])
  fields := #[{ name := "$assertionsDisabled", type := .boolean, accessFlags := 4120, slot := 0, constantValue := 0 }]
  methods := #[k9m0, k9m1, k9m2, k9m3, k9m4, k9m5, k9m6]
  instanceTypes := #[]
  staticTypes := #[.boolean]
  resolved := Array.replicate 395 none
  statics := none }

def pool10 : Array CpInfo := pool [(6, .class_ 8), (1, u "java/lang/Object"), (0, u "<init>"), (0, u "()V"), (1, .class_ 14), (1, u "java/lang/StringUTF16"), (31, u "$assertionsDisabled"), (0, u "Z"), (13, u "HI_BYTE_SHIFT"), (0, u "I"), (2, u "LO_BYTE_SHIFT"), (49, .methodref 12 116), (0, .nameAndType 117 118), (0, u "compress"), (0, u "([CI[BII)I"), (3, u "([CII)[B"), (138, u "coderFromArrayLen"), (0, u "([BI)B"), (106, .class_ 371), (1, u "java/lang/StringUTF16$LinesSpliterator"), (58, u "MAX_LENGTH"), (196, .class_ 628), (0, u "java/lang/StringUTF16$CodePointsSpliterator"), (0, .class_ 630), (0, u "java/lang/StringUTF16$CharsSpliterator")] 4

def k10m0 : Method := { name := "<init>", desc := "()V", sig := { parameters := [], returnType := none }, accessFlags := 0, code := none }
def k10c1 : Code := { maxStack := 2, maxLocals := 2, code := jdk_52_method_15_code, exceptionTable := #[], attributes := #[] }
def k10m1 : Method := { name := "coderFromArrayLen", desc := "([BI)B", sig := { parameters := [(.array .byte), .int], returnType := some .byte }, accessFlags := 8, code := some k10c1 }
def k10c2 : Code := { maxStack := 5, maxLocals := 6, code := jdk_52_method_16_code, exceptionTable := #[], attributes := #[] }
def k10m2 : Method := { name := "compress", desc := "([CII)[B", sig := { parameters := [(.array .char), .int, .int], returnType := some (.array .byte) }, accessFlags := 9, code := some k10c2 }
def k10c3 : Code := { maxStack := 3, maxLocals := 7, code := jdk_52_method_21_code, exceptionTable := #[], attributes := #[] }
def k10m3 : Method := { name := "compress", desc := "([CI[BII)I", sig := { parameters := [(.array .char), .int, (.array .byte), .int, .int], returnType := some .int }, accessFlags := 9, code := some k10c3 }
/-- java/lang/StringUTF16 -/
def k10 : Class := { plain "java/lang/StringUTF16" (some 0) with
  accessFlags := 48
  interfaces := #[]
  cf := some (fileOf pool10 12 #[.nestMembers #[627, 629, 369]] #[{ accessFlags := 0, nameIndex := 9, descriptorIndex := 10, attributes := #[] }, { accessFlags := 8, nameIndex := 261, descriptorIndex := 262, attributes := #[] }, { accessFlags := 9, nameIndex := 117, descriptorIndex := 122, attributes := #[] }, { accessFlags := 9, nameIndex := 117, descriptorIndex := 118, attributes := #[] }] 48 6 #[] #[{ accessFlags := 26, nameIndex := 61, descriptorIndex := 62, attributes := #[] }, { accessFlags := 26, nameIndex := 65, descriptorIndex := 62, attributes := #[] }, { accessFlags := 24, nameIndex := 430, descriptorIndex := 62, attributes := #[] }, { accessFlags := 4120, nameIndex := 46, descriptorIndex := 47, attributes := #[] }])
  fields := #[{ name := "HI_BYTE_SHIFT", type := .int, accessFlags := 26, slot := 0, constantValue := 0 }, { name := "LO_BYTE_SHIFT", type := .int, accessFlags := 26, slot := 1, constantValue := 0 }, { name := "MAX_LENGTH", type := .int, accessFlags := 24, slot := 2, constantValue := 0 }, { name := "$assertionsDisabled", type := .boolean, accessFlags := 4120, slot := 3, constantValue := 0 }]
  methods := #[k10m0, k10m1, k10m2, k10m3]
  instanceTypes := #[]
  staticTypes := #[.int, .int, .int, .boolean]
  resolved := Array.replicate 635 none
  statics := none }

def pool11 : Array CpInfo := pool [(1, .class_ 2), (0, u "java/lang/Math"), (1, .class_ 6), (1, u "java/lang/Object"), (0, u "<init>"), (0, u "()V"), (89, .class_ 100), (1, u "java/lang/Math$RandomNumberGeneratorHolder"), (71, u "negativeZeroFloatBits"), (0, u "J"), (2, u "negativeZeroDoubleBits"), (21, u "max"), (2, u "min"), (43, u "$assertionsDisabled"), (0, u "Z"), (88, u "(II)I"), (2, u "twoToTheDoubleScaleDown"), (0, u "D"), (4, u "twoToTheDoubleScaleUp"), (9, u "E"), (3, u "PI"), (2, u "TAU"), (2, u "DEGREES_TO_RADIANS"), (0, u "RADIANS_TO_DEGREES")] 94

def k11m0 : Method := { name := "<init>", desc := "()V", sig := { parameters := [], returnType := none }, accessFlags := 2, code := none }
def k11c1 : Code := { maxStack := 2, maxLocals := 2, code := jdk_29_method_65_code, exceptionTable := #[], attributes := #[] }
def k11m1 : Method := { name := "max", desc := "(II)I", sig := { parameters := [.int, .int], returnType := some .int }, accessFlags := 9, code := some k11c1 }
def k11c2 : Code := { maxStack := 2, maxLocals := 2, code := jdk_29_method_69_code, exceptionTable := #[], attributes := #[] }
def k11m2 : Method := { name := "min", desc := "(II)I", sig := { parameters := [.int, .int], returnType := some .int }, accessFlags := 9, code := some k11c2 }
/-- java/lang/Math -/
def k11 : Class := { plain "java/lang/Math" (some 0) with
  accessFlags := 49
  interfaces := #[]
  cf := some (fileOf pool11 1 #[.nestMembers #[98]] #[{ accessFlags := 2, nameIndex := 7, descriptorIndex := 8, attributes := #[] }, { accessFlags := 9, nameIndex := 198, descriptorIndex := 335, attributes := #[] }, { accessFlags := 9, nameIndex := 201, descriptorIndex := 335, attributes := #[] }] 49 4 #[] #[{ accessFlags := 25, nameIndex := 354, descriptorIndex := 339, attributes := #[] }, { accessFlags := 25, nameIndex := 358, descriptorIndex := 339, attributes := #[] }, { accessFlags := 25, nameIndex := 361, descriptorIndex := 339, attributes := #[] }, { accessFlags := 26, nameIndex := 364, descriptorIndex := 339, attributes := #[] }, { accessFlags := 26, nameIndex := 365, descriptorIndex := 339, attributes := #[] }, { accessFlags := 26, nameIndex := 172, descriptorIndex := 173, attributes := #[] }, { accessFlags := 26, nameIndex := 176, descriptorIndex := 173, attributes := #[] }, { accessFlags := 8, nameIndex := 344, descriptorIndex := 339, attributes := #[] }, { accessFlags := 8, nameIndex := 338, descriptorIndex := 339, attributes := #[] }, { accessFlags := 4120, nameIndex := 245, descriptorIndex := 246, attributes := #[] }])
  fields := #[{ name := "E", type := .double, accessFlags := 25, slot := 0, constantValue := 0 }, { name := "PI", type := .double, accessFlags := 25, slot := 1, constantValue := 0 }, { name := "TAU", type := .double, accessFlags := 25, slot := 2, constantValue := 0 }, { name := "DEGREES_TO_RADIANS", type := .double, accessFlags := 26, slot := 3, constantValue := 0 }, { name := "RADIANS_TO_DEGREES", type := .double, accessFlags := 26, slot := 4, constantValue := 0 }, { name := "negativeZeroFloatBits", type := .long, accessFlags := 26, slot := 5, constantValue := 0 }, { name := "negativeZeroDoubleBits", type := .long, accessFlags := 26, slot := 6, constantValue := 0 }, { name := "twoToTheDoubleScaleUp", type := .double, accessFlags := 8, slot := 7, constantValue := 0 }, { name := "twoToTheDoubleScaleDown", type := .double, accessFlags := 8, slot := 8, constantValue := 0 }, { name := "$assertionsDisabled", type := .boolean, accessFlags := 4120, slot := 9, constantValue := 0 }]
  methods := #[k11m0, k11m1, k11m2]
  instanceTypes := #[]
  staticTypes := #[.double, .double, .double, .double, .double, .long, .long, .double, .double, .boolean]
  resolved := Array.replicate 460 none
  statics := none }

def pool12 : Array CpInfo := pool [(2, .class_ 4), (1, u "java/lang/Object"), (0, u "<init>"), (0, u "()V"), (17, .class_ 26), (1, u "jdk/internal/util/Preconditions"), (6, u "checkIndex"), (21, .class_ 56), (0, u "jdk/internal/util/Preconditions$4"), (57, .class_ 115), (0, u "jdk/internal/util/Preconditions$1"), (7, u "SIOOBE_FORMATTER"), (0, u "Ljava/util/function/BiFunction;"), (0, .class_ 126), (0, u "jdk/internal/util/Preconditions$2"), (3, u "AIOOBE_FORMATTER"), (0, .class_ 132), (0, u "jdk/internal/util/Preconditions$3"), (3, u "IOOBE_FORMATTER"), (41, u "(IILjava/util/function/BiFunction;)I")] 15

def k12m0 : Method := { name := "<init>", desc := "()V", sig := { parameters := [], returnType := none }, accessFlags := 1, code := none }
def k12c1 : Code := { maxStack := 3, maxLocals := 3, code := jdk_41_method_11_code, exceptionTable := #[], attributes := #[] }
def k12m1 : Method := { name := "checkIndex", desc := "(IILjava/util/function/BiFunction;)I", sig := { parameters := [.int, .int, (.object "java/util/function/BiFunction")], returnType := some .int }, accessFlags := 9, code := some k12c1 }
/-- jdk/internal/util/Preconditions -/
def k12 : Class := { plain "jdk/internal/util/Preconditions" (some 0) with
  accessFlags := 33
  interfaces := #[]
  cf := some (fileOf pool12 24 #[.nestMembers #[55, 131, 125, 114]] #[{ accessFlags := 1, nameIndex := 5, descriptorIndex := 6, attributes := #[] }, { accessFlags := 9, nameIndex := 33, descriptorIndex := 178, attributes := #[] }] 33 2 #[] #[{ accessFlags := 25, nameIndex := 123, descriptorIndex := 124, attributes := #[] }, { accessFlags := 25, nameIndex := 130, descriptorIndex := 124, attributes := #[] }, { accessFlags := 25, nameIndex := 136, descriptorIndex := 124, attributes := #[] }])
  fields := #[{ name := "SIOOBE_FORMATTER", type := (.object "java/util/function/BiFunction"), accessFlags := 25, slot := 0, constantValue := 0 }, { name := "AIOOBE_FORMATTER", type := (.object "java/util/function/BiFunction"), accessFlags := 25, slot := 1, constantValue := 0 }, { name := "IOOBE_FORMATTER", type := (.object "java/util/function/BiFunction"), accessFlags := 25, slot := 2, constantValue := 0 }]
  methods := #[k12m0, k12m1]
  instanceTypes := #[]
  staticTypes := #[(.object "java/util/function/BiFunction"), (.object "java/util/function/BiFunction"), (.object "java/util/function/BiFunction")]
  resolved := Array.replicate 194 none
  statics := some 1 }

def pool13 : Array CpInfo := pool [(9, u "<init>"), (6, .class_ 18), (1, u "java/lang/Object"), (0, u "()V"), (1, .class_ 23), (1, u "jdk/internal/util/ArraysSupport"), (0, u "LOG2_ARRAY_LONG_INDEX_SCALE"), (0, u "I"), (2, u "U"), (0, u "Ljdk/internal/misc/Unsafe;"), (8, u "BIG_ENDIAN"), (0, u "Z"), (8, u "LOG2_BYTE_BIT_SIZE"), (4, u "LOG2_ARRAY_INT_INDEX_SCALE"), (54, u "JLA"), (0, u "Ljdk/internal/access/JavaLangAccess;"), (11, u "LOG2_ARRAY_BOOLEAN_INDEX_SCALE"), (9, u "LOG2_ARRAY_BYTE_INDEX_SCALE"), (5, u "LOG2_ARRAY_CHAR_INDEX_SCALE"), (5, u "LOG2_ARRAY_SHORT_INDEX_SCALE"), (18, u "LOG2_ARRAY_FLOAT_INDEX_SCALE"), (24, u "LOG2_ARRAY_DOUBLE_INDEX_SCALE"), (89, u "T_BOOLEAN"), (2, u "T_CHAR"), (1, u "T_FLOAT"), (1, u "T_DOUBLE"), (1, u "T_BYTE"), (1, u "T_SHORT"), (1, u "T_INT"), (1, u "T_LONG"), (1, u "SOFT_MAX_ARRAY_LENGTH")] 83

def k13m0 : Method := { name := "<init>", desc := "()V", sig := { parameters := [], returnType := none }, accessFlags := 2, code := none }
/-- jdk/internal/util/ArraysSupport -/
def k13 : Class := { plain "jdk/internal/util/ArraysSupport" (some 0) with
  accessFlags := 33
  interfaces := #[]
  cf := some (fileOf pool13 21 #[] #[{ accessFlags := 2, nameIndex := 9, descriptorIndex := 19, attributes := #[] }] 33 16 #[] #[{ accessFlags := 24, nameIndex := 28, descriptorIndex := 29, attributes := #[] }, { accessFlags := 26, nameIndex := 38, descriptorIndex := 39, attributes := #[] }, { accessFlags := 25, nameIndex := 121, descriptorIndex := 25, attributes := #[] }, { accessFlags := 25, nameIndex := 131, descriptorIndex := 25, attributes := #[] }, { accessFlags := 25, nameIndex := 137, descriptorIndex := 25, attributes := #[] }, { accessFlags := 25, nameIndex := 143, descriptorIndex := 25, attributes := #[] }, { accessFlags := 25, nameIndex := 53, descriptorIndex := 25, attributes := #[] }, { accessFlags := 25, nameIndex := 24, descriptorIndex := 25, attributes := #[] }, { accessFlags := 25, nameIndex := 162, descriptorIndex := 25, attributes := #[] }, { accessFlags := 25, nameIndex := 187, descriptorIndex := 25, attributes := #[] }, { accessFlags := 26, nameIndex := 48, descriptorIndex := 25, attributes := #[] }, { accessFlags := 25, nameIndex := 277, descriptorIndex := 25, attributes := #[] }, { accessFlags := 25, nameIndex := 280, descriptorIndex := 25, attributes := #[] }, { accessFlags := 25, nameIndex := 282, descriptorIndex := 25, attributes := #[] }, { accessFlags := 25, nameIndex := 284, descriptorIndex := 25, attributes := #[] }, { accessFlags := 25, nameIndex := 286, descriptorIndex := 25, attributes := #[] }, { accessFlags := 25, nameIndex := 288, descriptorIndex := 25, attributes := #[] }, { accessFlags := 25, nameIndex := 290, descriptorIndex := 25, attributes := #[] }, { accessFlags := 25, nameIndex := 292, descriptorIndex := 25, attributes := #[] }, { accessFlags := 26, nameIndex := 108, descriptorIndex := 109, attributes := #[] }, { accessFlags := 25, nameIndex := 294, descriptorIndex := 25, attributes := #[] }])
  fields := #[{ name := "U", type := (.object "jdk/internal/misc/Unsafe"), accessFlags := 24, slot := 0, constantValue := 0 }, { name := "BIG_ENDIAN", type := .boolean, accessFlags := 26, slot := 1, constantValue := 0 }, { name := "LOG2_ARRAY_BOOLEAN_INDEX_SCALE", type := .int, accessFlags := 25, slot := 2, constantValue := 0 }, { name := "LOG2_ARRAY_BYTE_INDEX_SCALE", type := .int, accessFlags := 25, slot := 3, constantValue := 0 }, { name := "LOG2_ARRAY_CHAR_INDEX_SCALE", type := .int, accessFlags := 25, slot := 4, constantValue := 0 }, { name := "LOG2_ARRAY_SHORT_INDEX_SCALE", type := .int, accessFlags := 25, slot := 5, constantValue := 0 }, { name := "LOG2_ARRAY_INT_INDEX_SCALE", type := .int, accessFlags := 25, slot := 6, constantValue := 0 }, { name := "LOG2_ARRAY_LONG_INDEX_SCALE", type := .int, accessFlags := 25, slot := 7, constantValue := 0 }, { name := "LOG2_ARRAY_FLOAT_INDEX_SCALE", type := .int, accessFlags := 25, slot := 8, constantValue := 0 }, { name := "LOG2_ARRAY_DOUBLE_INDEX_SCALE", type := .int, accessFlags := 25, slot := 9, constantValue := 0 }, { name := "LOG2_BYTE_BIT_SIZE", type := .int, accessFlags := 26, slot := 10, constantValue := 0 }, { name := "T_BOOLEAN", type := .int, accessFlags := 25, slot := 11, constantValue := 0 }, { name := "T_CHAR", type := .int, accessFlags := 25, slot := 12, constantValue := 0 }, { name := "T_FLOAT", type := .int, accessFlags := 25, slot := 13, constantValue := 0 }, { name := "T_DOUBLE", type := .int, accessFlags := 25, slot := 14, constantValue := 0 }, { name := "T_BYTE", type := .int, accessFlags := 25, slot := 15, constantValue := 0 }, { name := "T_SHORT", type := .int, accessFlags := 25, slot := 16, constantValue := 0 }, { name := "T_INT", type := .int, accessFlags := 25, slot := 17, constantValue := 0 }, { name := "T_LONG", type := .int, accessFlags := 25, slot := 18, constantValue := 0 }, { name := "JLA", type := (.object "jdk/internal/access/JavaLangAccess"), accessFlags := 26, slot := 19, constantValue := 0 }, { name := "SOFT_MAX_ARRAY_LENGTH", type := .int, accessFlags := 25, slot := 20, constantValue := 0 }]
  methods := #[k13m0]
  instanceTypes := #[]
  staticTypes := #[(.object "jdk/internal/misc/Unsafe"), .boolean, .int, .int, .int, .int, .int, .int, .int, .int, .int, .int, .int, .int, .int, .int, .int, .int, .int, (.object "jdk/internal/access/JavaLangAccess"), .int]
  resolved := Array.replicate 378 none
  statics := none }

def pool14 : Array CpInfo := pool [(1, u "java/lang/Cloneable"), (0, .class_ 1), (0, u "java/lang/Object"), (0, .class_ 3)] 3

/-- java/lang/Cloneable -/
def k14 : Class := { plain "java/lang/Cloneable" (some 0) with
  accessFlags := 1537
  interfaces := #[]
  cf := some (fileOf pool14 2 #[] #[] 1537 4 #[] #[])
  fields := #[]
  methods := #[]
  instanceTypes := #[]
  staticTypes := #[]
  resolved := Array.replicate 8 none
  statics := none }

/-- the primitive byte -/
def k15 : Class := { plain "byte" none with kind := .primitive 'B', accessFlags := 0x411 }
/-- [B -/
def k16 : Class := { plain "[B" (some 0) with kind := .array 15 .byte, interfaces := #[14, 2], accessFlags := 1041 }

/-- the primitive char -/
def k17 : Class := { plain "char" none with kind := .primitive 'C', accessFlags := 0x411 }
/-- [C -/
def k18 : Class := { plain "[C" (some 0) with kind := .array 17 .char, interfaces := #[14, 2], accessFlags := 1041 }

/-- the primitive int -/
def k19 : Class := { plain "int" none with kind := .primitive 'I', accessFlags := 0x411 }
/-- [I -/
def k20 : Class := { plain "[I" (some 0) with kind := .array 19 .int, interfaces := #[14, 2], accessFlags := 1041 }

def heap : Heap := #[{ cls := 7, slots := #[.long 0, .int 1, .null, .int 0, .null, .int 0, .int 0], vm := .statics 7 },
  { cls := 12, slots := #[.null, .null, .null], vm := .statics 12 }]
def classes : Array Class := #[k0, k1, k2, k3, k4, k5, k6, k7, k8, k9, k10, k11, k12, k13, k14, k15, k16, k17, k18, k19, k20]
def interned : List (Array UInt16 × Addr) := []
def slotsUsed : Nat := 10
def theMethod : MethodId := ⟨1, 4⟩
def args0 : Array Value := #[.int 5, .int 6, .int 7]
def aboutOver (below : List Frame) : State where
  vm := { classes := classes, interned := interned.toArray }
  heap := heap
  slotsUsed := slotsUsed
  threads := #[{ frames := .invoking theMethod args0 :: below }]
def below0 : List Frame := [.native { method := ⟨0, 0⟩, args := #[] }]
def about1 : State := aboutOver below0
def p0 : Program := .bare "" "" ""
def e0 : Env := launch0.env 0 0 0
theorem w_frames : about1.frames = Frame.invoking theMethod args0 :: below0 := rfl
set_option maxRecDepth 65536 in
theorem w_args : argsFit about1.vm theMethod args0 = true := by decide +kernel
set_option maxRecDepth 65536 in
theorem w_heap : heapFits about1 = true := by decide +kernel
set_option maxRecDepth 65536 in
theorem w_runnable : about1.curStatus? = some .runnable := by decide +kernel
set_option maxRecDepth 65536 in
theorem w_alone : about1.alone = true := by decide +kernel
set_option maxRecDepth 65536 in
theorem w_named : about1.methodNamed? x = some theMethod := by decide +kernel
set_option maxRecDepth 65536 in
theorem w_hears : about1.hears theMethod below0 = true := by decide +kernel
set_option maxRecDepth 65536 in
theorem w_ripe : about1.ripe theMethod args0 below0 = true := by decide +kernel
theorem w_running : about1.status = .running := rfl
set_option maxRecDepth 65536 in
theorem w_room : about1.hasRoom e0.platform room_1 = true :=
  launch0.hasRoom_least _ room_1 (by decide +kernel) (by decide +kernel) (by decide +kernel) (by decide +kernel) (by decide +kernel) (by decide +kernel)
theorem allAtoms_all (ts : List Jvm.Cond) (a : Array Jvm.Value) (st : Jvm.State) : (allAtoms ts).before a st = ts.all (fun c => c.before a st) := by
  induction ts with
  | nil => rfl
  | cons c t ih =>
    show (Jvm.Cond.and c (allAtoms t)).before a st = _
    rw [Jvm.Cond.before_and, ih, List.all_cons]
def words1 : List Jvm.Cond := Jvm.Cond.code x code maxLocals ret :: tables_1
/-- a 'code' word, met by the world's own term for the bytes: nothing is compared byte by byte -/
theorem code_word {y : MethodName} {bytes : ByteArray} {mx : Nat} {rt : Option FieldType} {a : Array Value} {s : State} {m : MethodId} {meth : Method} {c : Code} (h1 : s.methodNamed? y = some m) (h2 : s.vm.method? m = some meth) (h3 : meth.code = some c) (h4 : c.code = bytes)
    (h5 : (c.maxLocals == mx && c.exceptionTable.isEmpty && decide (c.maxStack ≤ mostOperands) && decide (meth.sig.returnType = rt) && !meth.locks && decide (parseMethodDescriptor y.desc = some meth.sig)) = true) : (Jvm.Cond.code y bytes mx rt).before a s = true := by
  simp only [Bool.and_eq_true, beq_iff_eq, Bool.not_eq_true', decide_eq_true_eq] at h5
  obtain ⟨⟨⟨⟨⟨g1, g2⟩, g3⟩, g4⟩, g5⟩, g6⟩ := h5
  simp [Cond.before, Cond.holds, Cond.value, h1, h2, h3, h4, g1, g2, g3, g4, g5, g6]
def isCode : Jvm.Cond → Bool
  | .code _ _ _ _ => true
  | _ => false
theorem all_split {L : List Jvm.Cond} {P : Jvm.Cond → Bool} (h1 : L.all (fun c => isCode c || P c) = true) (h2 : ∀ c ∈ L.filter isCode, P c = true) : L.all P = true := by
  refine List.all_eq_true.mpr fun c hc => ?_
  have h := List.all_eq_true.mp h1 c hc
  rcases Bool.eq_false_or_eq_true (isCode c) with hi | hi
  · exact h2 c (List.mem_filter.mpr ⟨hc, hi⟩)
  · simpa [hi] using h
set_option maxRecDepth 65536 in
theorem w_c0 : (Jvm.Cond.code x code maxLocals ret).before args0 about1 = true := code_word (m := ⟨1, 4⟩) (meth := k1m4) (c := k1c4) (by decide +kernel) rfl rfl rfl (by decide +kernel)
set_option maxRecDepth 65536 in
theorem w_c1 : (Jvm.Cond.code ({ cls := "com/example/libinvariant/libinvariant/aiger/LineFieldsHasNextPinLaw", name := "ch", desc := "(II)C" } : Jvm.MethodName) method_2_code (2 : Nat) (Option.some Jvm.ClassFile.FieldType.char)).before args0 about1 = true := code_word (m := ⟨1, 1⟩) (meth := k1m1) (c := k1c1) (by decide +kernel) rfl rfl rfl (by decide +kernel)
set_option maxRecDepth 65536 in
theorem w_c2 : (Jvm.Cond.code ({ cls := "com/example/libinvariant/libinvariant/aiger/LineFieldsHasNextPinLaw", name := "str", desc := "([CI)Ljava/lang/String;" } : Jvm.MethodName) method_3_code (2 : Nat) (Option.some (Jvm.ClassFile.FieldType.object "java/lang/String"))).before args0 about1 = true := code_word (m := ⟨1, 2⟩) (meth := k1m2) (c := k1c2) (by decide +kernel) rfl rfl rfl (by decide +kernel)
set_option maxRecDepth 65536 in
theorem w_c3 : (Jvm.Cond.code ({ cls := "com/example/libinvariant/libinvariant/aiger/LineFields", name := "<init>", desc := "(Ljava/lang/String;I)V" } : Jvm.MethodName) prog_13_method_1_code (3 : Nat) (Option.none : Option Jvm.ClassFile.FieldType)).before args0 about1 = true := code_word (m := ⟨8, 0⟩) (meth := k8m0) (c := k8c0) (by decide +kernel) rfl rfl rfl (by decide +kernel)
set_option maxRecDepth 65536 in
theorem w_c4 : (Jvm.Cond.code ({ cls := "java/lang/Object", name := "<init>", desc := "()V" } : Jvm.MethodName) object_method_1_code (1 : Nat) (Option.none : Option Jvm.ClassFile.FieldType)).before args0 about1 = true := code_word (m := ⟨0, 0⟩) (meth := k0m0) (c := k0c0) (by decide +kernel) rfl rfl rfl (by decide +kernel)
set_option maxRecDepth 65536 in
theorem w_c5 : (Jvm.Cond.code ({ cls := "com/example/libinvariant/libinvariant/aiger/LineFields", name := "hasNext", desc := "()Z" } : Jvm.MethodName) prog_13_method_2_code (1 : Nat) (Option.some Jvm.ClassFile.FieldType.boolean)).before args0 about1 = true := code_word (m := ⟨8, 1⟩) (meth := k8m1) (c := k8c1) (by decide +kernel) rfl rfl rfl (by decide +kernel)
set_option maxRecDepth 65536 in
theorem w_c6 : (Jvm.Cond.code ({ cls := "java/lang/String", name := "length", desc := "()I" } : Jvm.MethodName) jdk_42_method_54_code (1 : Nat) (Option.some Jvm.ClassFile.FieldType.int)).before args0 about1 = true := code_word (m := ⟨7, 2⟩) (meth := k7m2) (c := k7c2) (by decide +kernel) rfl rfl rfl (by decide +kernel)
set_option maxRecDepth 65536 in
theorem w_c7 : (Jvm.Cond.code ({ cls := "java/lang/String", name := "coder", desc := "()B" } : Jvm.MethodName) jdk_42_method_152_code (1 : Nat) (Option.some Jvm.ClassFile.FieldType.byte)).before args0 about1 = true := code_word (m := ⟨7, 8⟩) (meth := k7m8) (c := k7c8) (by decide +kernel) rfl rfl rfl (by decide +kernel)
set_option maxRecDepth 65536 in
theorem w_c8 : (Jvm.Cond.code ({ cls := "java/lang/String", name := "valueOf", desc := "(C)Ljava/lang/String;" } : Jvm.MethodName) jdk_42_method_139_code (1 : Nat) (Option.some (Jvm.ClassFile.FieldType.object "java/lang/String"))).before args0 about1 = true := code_word (m := ⟨7, 5⟩) (meth := k7m5) (c := k7c5) (by decide +kernel) rfl rfl rfl (by decide +kernel)
set_option maxRecDepth 65536 in
theorem w_c9 : (Jvm.Cond.code ({ cls := "java/lang/StringLatin1", name := "canEncode", desc := "(C)Z" } : Jvm.MethodName) jdk_43_method_3_code (1 : Nat) (Option.some Jvm.ClassFile.FieldType.boolean)).before args0 about1 = true := code_word (m := ⟨9, 2⟩) (meth := k9m2) (c := k9c2) (by decide +kernel) rfl rfl rfl (by decide +kernel)
set_option maxRecDepth 65536 in
theorem w_c10 : (Jvm.Cond.code ({ cls := "java/lang/StringLatin1", name := "toBytes", desc := "(C)[B" } : Jvm.MethodName) jdk_43_method_46_code (1 : Nat) (Option.some (Jvm.ClassFile.FieldType.array Jvm.ClassFile.FieldType.byte))).before args0 about1 = true := code_word (m := ⟨9, 6⟩) (meth := k9m6) (c := k9c6) (by decide +kernel) rfl rfl rfl (by decide +kernel)
set_option maxRecDepth 65536 in
theorem w_c11 : (Jvm.Cond.code ({ cls := "java/lang/String", name := "<init>", desc := "([BB)V" } : Jvm.MethodName) jdk_42_method_151_code (3 : Nat) (Option.none : Option Jvm.ClassFile.FieldType)).before args0 about1 = true := code_word (m := ⟨7, 7⟩) (meth := k7m7) (c := k7c7) (by decide +kernel) rfl rfl rfl (by decide +kernel)
set_option maxRecDepth 65536 in
theorem w_c12 : (Jvm.Cond.code ({ cls := "java/lang/String", name := "<init>", desc := "([C)V" } : Jvm.MethodName) jdk_42_method_3_code (2 : Nat) (Option.none : Option Jvm.ClassFile.FieldType)).before args0 about1 = true := code_word (m := ⟨7, 1⟩) (meth := k7m1) (c := k7c1) (by decide +kernel) rfl rfl rfl (by decide +kernel)
set_option maxRecDepth 65536 in
theorem w_c13 : (Jvm.Cond.code ({ cls := "java/lang/String", name := "<init>", desc := "([CIILjava/lang/Void;)V" } : Jvm.MethodName) jdk_42_method_149_code (6 : Nat) (Option.none : Option Jvm.ClassFile.FieldType)).before args0 about1 = true := code_word (m := ⟨7, 6⟩) (meth := k7m6) (c := k7c6) (by decide +kernel) rfl rfl rfl (by decide +kernel)
set_option maxRecDepth 65536 in
theorem w_c14 : (Jvm.Cond.code ({ cls := "java/lang/StringUTF16", name := "compress", desc := "([CII)[B" } : Jvm.MethodName) jdk_52_method_16_code (6 : Nat) (Option.some (Jvm.ClassFile.FieldType.array Jvm.ClassFile.FieldType.byte))).before args0 about1 = true := code_word (m := ⟨10, 2⟩) (meth := k10m2) (c := k10c2) (by decide +kernel) rfl rfl rfl (by decide +kernel)
set_option maxRecDepth 65536 in
theorem w_c15 : (Jvm.Cond.code ({ cls := "java/lang/StringUTF16", name := "compress", desc := "([CI[BII)I" } : Jvm.MethodName) jdk_52_method_21_code (7 : Nat) (Option.some Jvm.ClassFile.FieldType.int)).before args0 about1 = true := code_word (m := ⟨10, 3⟩) (meth := k10m3) (c := k10c3) (by decide +kernel) rfl rfl rfl (by decide +kernel)
set_option maxRecDepth 65536 in
theorem w_c16 : (Jvm.Cond.code ({ cls := "java/lang/StringUTF16", name := "coderFromArrayLen", desc := "([BI)B" } : Jvm.MethodName) jdk_52_method_15_code (2 : Nat) (Option.some Jvm.ClassFile.FieldType.byte)).before args0 about1 = true := code_word (m := ⟨10, 1⟩) (meth := k10m1) (c := k10c1) (by decide +kernel) rfl rfl rfl (by decide +kernel)
set_option maxRecDepth 65536 in
theorem w_c17 : (Jvm.Cond.code ({ cls := "com/example/libinvariant/libinvariant/aiger/LineFields", name := "next", desc := "(Ljava/lang/String;)I" } : Jvm.MethodName) prog_13_method_3_code (8 : Nat) (Option.some Jvm.ClassFile.FieldType.int)).before args0 about1 = true := code_word (m := ⟨8, 2⟩) (meth := k8m2) (c := k8c2) (by decide +kernel) rfl rfl rfl (by decide +kernel)
set_option maxRecDepth 65536 in
theorem w_c18 : (Jvm.Cond.code ({ cls := "java/lang/String", name := "indexOf", desc := "(II)I" } : Jvm.MethodName) jdk_42_method_80_code (3 : Nat) (Option.some Jvm.ClassFile.FieldType.int)).before args0 about1 = true := code_word (m := ⟨7, 4⟩) (meth := k7m4) (c := k7c4) (by decide +kernel) rfl rfl rfl (by decide +kernel)
set_option maxRecDepth 65536 in
theorem w_c19 : (Jvm.Cond.code ({ cls := "java/lang/String", name := "isLatin1", desc := "()Z" } : Jvm.MethodName) jdk_42_method_154_code (1 : Nat) (Option.some Jvm.ClassFile.FieldType.boolean)).before args0 about1 = true := code_word (m := ⟨7, 9⟩) (meth := k7m9) (c := k7c9) (by decide +kernel) rfl rfl rfl (by decide +kernel)
set_option maxRecDepth 65536 in
theorem w_c20 : (Jvm.Cond.code ({ cls := "java/lang/StringLatin1", name := "indexOf", desc := "([BIII)I" } : Jvm.MethodName) jdk_43_method_22_code (4 : Nat) (Option.some Jvm.ClassFile.FieldType.int)).before args0 about1 = true := code_word (m := ⟨9, 4⟩) (meth := k9m4) (c := k9c4) (by decide +kernel) rfl rfl rfl (by decide +kernel)
set_option maxRecDepth 65536 in
theorem w_c21 : (Jvm.Cond.code ({ cls := "java/lang/StringLatin1", name := "canEncode", desc := "(I)Z" } : Jvm.MethodName) jdk_43_method_4_code (1 : Nat) (Option.some Jvm.ClassFile.FieldType.boolean)).before args0 about1 = true := code_word (m := ⟨9, 3⟩) (meth := k9m3) (c := k9c3) (by decide +kernel) rfl rfl rfl (by decide +kernel)
set_option maxRecDepth 65536 in
theorem w_c22 : (Jvm.Cond.code ({ cls := "java/lang/Math", name := "max", desc := "(II)I" } : Jvm.MethodName) jdk_29_method_65_code (2 : Nat) (Option.some Jvm.ClassFile.FieldType.int)).before args0 about1 = true := code_word (m := ⟨11, 1⟩) (meth := k11m1) (c := k11c1) (by decide +kernel) rfl rfl rfl (by decide +kernel)
set_option maxRecDepth 65536 in
theorem w_c23 : (Jvm.Cond.code ({ cls := "java/lang/Math", name := "min", desc := "(II)I" } : Jvm.MethodName) jdk_29_method_69_code (2 : Nat) (Option.some Jvm.ClassFile.FieldType.int)).before args0 about1 = true := code_word (m := ⟨11, 2⟩) (meth := k11m2) (c := k11c2) (by decide +kernel) rfl rfl rfl (by decide +kernel)
set_option maxRecDepth 65536 in
theorem w_c24 : (Jvm.Cond.code ({ cls := "java/lang/StringLatin1", name := "indexOfChar", desc := "([BIII)I" } : Jvm.MethodName) jdk_43_method_23_code (6 : Nat) (Option.some Jvm.ClassFile.FieldType.int)).before args0 about1 = true := code_word (m := ⟨9, 5⟩) (meth := k9m5) (c := k9c5) (by decide +kernel) rfl rfl rfl (by decide +kernel)
set_option maxRecDepth 65536 in
theorem w_c25 : (Jvm.Cond.code ({ cls := "java/lang/String", name := "charAt", desc := "(I)C" } : Jvm.MethodName) jdk_42_method_56_code (2 : Nat) (Option.some Jvm.ClassFile.FieldType.char)).before args0 about1 = true := code_word (m := ⟨7, 3⟩) (meth := k7m3) (c := k7c3) (by decide +kernel) rfl rfl rfl (by decide +kernel)
set_option maxRecDepth 65536 in
theorem w_c26 : (Jvm.Cond.code ({ cls := "java/lang/StringLatin1", name := "charAt", desc := "([BI)C" } : Jvm.MethodName) jdk_43_method_2_code (2 : Nat) (Option.some Jvm.ClassFile.FieldType.char)).before args0 about1 = true := code_word (m := ⟨9, 1⟩) (meth := k9m1) (c := k9c1) (by decide +kernel) rfl rfl rfl (by decide +kernel)
set_option maxRecDepth 65536 in
theorem w_c27 : (Jvm.Cond.code ({ cls := "java/lang/String", name := "checkIndex", desc := "(II)V" } : Jvm.MethodName) jdk_42_method_155_code (2 : Nat) (Option.none : Option Jvm.ClassFile.FieldType)).before args0 about1 = true := code_word (m := ⟨7, 10⟩) (meth := k7m10) (c := k7c10) (by decide +kernel) rfl rfl rfl (by decide +kernel)
set_option maxRecDepth 65536 in
theorem w_c28 : (Jvm.Cond.code ({ cls := "jdk/internal/util/Preconditions", name := "checkIndex", desc := "(IILjava/util/function/BiFunction;)I" } : Jvm.MethodName) jdk_41_method_11_code (3 : Nat) (Option.some Jvm.ClassFile.FieldType.int)).before args0 about1 = true := code_word (m := ⟨12, 1⟩) (meth := k12m1) (c := k12c1) (by decide +kernel) rfl rfl rfl (by decide +kernel)
set_option maxRecDepth 65536 in
theorem w_c29 : (Jvm.Cond.code ({ cls := "com/example/libinvariant/libinvariant/aiger/LineFieldsHasNextPinLaw", name := "firstSpace", desc := "([CII)I" } : Jvm.MethodName) method_4_code (3 : Nat) (Option.some Jvm.ClassFile.FieldType.int)).before args0 about1 = true := code_word (m := ⟨1, 3⟩) (meth := k1m3) (c := k1c3) (by decide +kernel) rfl rfl rfl (by decide +kernel)
def codes1 : List Jvm.Cond := [Jvm.Cond.code x code maxLocals ret, Jvm.Cond.code ({ cls := "com/example/libinvariant/libinvariant/aiger/LineFieldsHasNextPinLaw", name := "ch", desc := "(II)C" } : Jvm.MethodName) method_2_code (2 : Nat) (Option.some Jvm.ClassFile.FieldType.char), Jvm.Cond.code ({ cls := "com/example/libinvariant/libinvariant/aiger/LineFieldsHasNextPinLaw", name := "str", desc := "([CI)Ljava/lang/String;" } : Jvm.MethodName) method_3_code (2 : Nat) (Option.some (Jvm.ClassFile.FieldType.object "java/lang/String")), Jvm.Cond.code ({ cls := "com/example/libinvariant/libinvariant/aiger/LineFields", name := "<init>", desc := "(Ljava/lang/String;I)V" } : Jvm.MethodName) prog_13_method_1_code (3 : Nat) (Option.none : Option Jvm.ClassFile.FieldType), Jvm.Cond.code ({ cls := "java/lang/Object", name := "<init>", desc := "()V" } : Jvm.MethodName) object_method_1_code (1 : Nat) (Option.none : Option Jvm.ClassFile.FieldType), Jvm.Cond.code ({ cls := "com/example/libinvariant/libinvariant/aiger/LineFields", name := "hasNext", desc := "()Z" } : Jvm.MethodName) prog_13_method_2_code (1 : Nat) (Option.some Jvm.ClassFile.FieldType.boolean), Jvm.Cond.code ({ cls := "java/lang/String", name := "length", desc := "()I" } : Jvm.MethodName) jdk_42_method_54_code (1 : Nat) (Option.some Jvm.ClassFile.FieldType.int), Jvm.Cond.code ({ cls := "java/lang/String", name := "coder", desc := "()B" } : Jvm.MethodName) jdk_42_method_152_code (1 : Nat) (Option.some Jvm.ClassFile.FieldType.byte), Jvm.Cond.code ({ cls := "java/lang/String", name := "valueOf", desc := "(C)Ljava/lang/String;" } : Jvm.MethodName) jdk_42_method_139_code (1 : Nat) (Option.some (Jvm.ClassFile.FieldType.object "java/lang/String")), Jvm.Cond.code ({ cls := "java/lang/StringLatin1", name := "canEncode", desc := "(C)Z" } : Jvm.MethodName) jdk_43_method_3_code (1 : Nat) (Option.some Jvm.ClassFile.FieldType.boolean), Jvm.Cond.code ({ cls := "java/lang/StringLatin1", name := "toBytes", desc := "(C)[B" } : Jvm.MethodName) jdk_43_method_46_code (1 : Nat) (Option.some (Jvm.ClassFile.FieldType.array Jvm.ClassFile.FieldType.byte)), Jvm.Cond.code ({ cls := "java/lang/String", name := "<init>", desc := "([BB)V" } : Jvm.MethodName) jdk_42_method_151_code (3 : Nat) (Option.none : Option Jvm.ClassFile.FieldType), Jvm.Cond.code ({ cls := "java/lang/String", name := "<init>", desc := "([C)V" } : Jvm.MethodName) jdk_42_method_3_code (2 : Nat) (Option.none : Option Jvm.ClassFile.FieldType), Jvm.Cond.code ({ cls := "java/lang/String", name := "<init>", desc := "([CIILjava/lang/Void;)V" } : Jvm.MethodName) jdk_42_method_149_code (6 : Nat) (Option.none : Option Jvm.ClassFile.FieldType), Jvm.Cond.code ({ cls := "java/lang/StringUTF16", name := "compress", desc := "([CII)[B" } : Jvm.MethodName) jdk_52_method_16_code (6 : Nat) (Option.some (Jvm.ClassFile.FieldType.array Jvm.ClassFile.FieldType.byte)), Jvm.Cond.code ({ cls := "java/lang/StringUTF16", name := "compress", desc := "([CI[BII)I" } : Jvm.MethodName) jdk_52_method_21_code (7 : Nat) (Option.some Jvm.ClassFile.FieldType.int), Jvm.Cond.code ({ cls := "java/lang/StringUTF16", name := "coderFromArrayLen", desc := "([BI)B" } : Jvm.MethodName) jdk_52_method_15_code (2 : Nat) (Option.some Jvm.ClassFile.FieldType.byte), Jvm.Cond.code ({ cls := "com/example/libinvariant/libinvariant/aiger/LineFields", name := "next", desc := "(Ljava/lang/String;)I" } : Jvm.MethodName) prog_13_method_3_code (8 : Nat) (Option.some Jvm.ClassFile.FieldType.int), Jvm.Cond.code ({ cls := "java/lang/String", name := "indexOf", desc := "(II)I" } : Jvm.MethodName) jdk_42_method_80_code (3 : Nat) (Option.some Jvm.ClassFile.FieldType.int), Jvm.Cond.code ({ cls := "java/lang/String", name := "isLatin1", desc := "()Z" } : Jvm.MethodName) jdk_42_method_154_code (1 : Nat) (Option.some Jvm.ClassFile.FieldType.boolean), Jvm.Cond.code ({ cls := "java/lang/StringLatin1", name := "indexOf", desc := "([BIII)I" } : Jvm.MethodName) jdk_43_method_22_code (4 : Nat) (Option.some Jvm.ClassFile.FieldType.int), Jvm.Cond.code ({ cls := "java/lang/StringLatin1", name := "canEncode", desc := "(I)Z" } : Jvm.MethodName) jdk_43_method_4_code (1 : Nat) (Option.some Jvm.ClassFile.FieldType.boolean), Jvm.Cond.code ({ cls := "java/lang/Math", name := "max", desc := "(II)I" } : Jvm.MethodName) jdk_29_method_65_code (2 : Nat) (Option.some Jvm.ClassFile.FieldType.int), Jvm.Cond.code ({ cls := "java/lang/Math", name := "min", desc := "(II)I" } : Jvm.MethodName) jdk_29_method_69_code (2 : Nat) (Option.some Jvm.ClassFile.FieldType.int), Jvm.Cond.code ({ cls := "java/lang/StringLatin1", name := "indexOfChar", desc := "([BIII)I" } : Jvm.MethodName) jdk_43_method_23_code (6 : Nat) (Option.some Jvm.ClassFile.FieldType.int), Jvm.Cond.code ({ cls := "java/lang/String", name := "charAt", desc := "(I)C" } : Jvm.MethodName) jdk_42_method_56_code (2 : Nat) (Option.some Jvm.ClassFile.FieldType.char), Jvm.Cond.code ({ cls := "java/lang/StringLatin1", name := "charAt", desc := "([BI)C" } : Jvm.MethodName) jdk_43_method_2_code (2 : Nat) (Option.some Jvm.ClassFile.FieldType.char), Jvm.Cond.code ({ cls := "java/lang/String", name := "checkIndex", desc := "(II)V" } : Jvm.MethodName) jdk_42_method_155_code (2 : Nat) (Option.none : Option Jvm.ClassFile.FieldType), Jvm.Cond.code ({ cls := "jdk/internal/util/Preconditions", name := "checkIndex", desc := "(IILjava/util/function/BiFunction;)I" } : Jvm.MethodName) jdk_41_method_11_code (3 : Nat) (Option.some Jvm.ClassFile.FieldType.int), Jvm.Cond.code ({ cls := "com/example/libinvariant/libinvariant/aiger/LineFieldsHasNextPinLaw", name := "firstSpace", desc := "([CII)I" } : Jvm.MethodName) method_4_code (3 : Nat) (Option.some Jvm.ClassFile.FieldType.int)]
set_option maxRecDepth 65536 in
theorem codes_eq : words1.filter isCode = codes1 := rfl
theorem w_codes : ∀ c ∈ words1.filter isCode, c.before args0 about1 = true := by
  rw [codes_eq]
  intro c hc
  simp only [codes1, List.mem_cons, List.not_mem_nil, or_false] at hc
  rcases hc with rfl | rfl | rfl | rfl | rfl | rfl | rfl | rfl | rfl | rfl | rfl | rfl | rfl | rfl | rfl | rfl | rfl | rfl | rfl | rfl | rfl | rfl | rfl | rfl | rfl | rfl | rfl | rfl | rfl | rfl
  · exact w_c0
  · exact w_c1
  · exact w_c2
  · exact w_c3
  · exact w_c4
  · exact w_c5
  · exact w_c6
  · exact w_c7
  · exact w_c8
  · exact w_c9
  · exact w_c10
  · exact w_c11
  · exact w_c12
  · exact w_c13
  · exact w_c14
  · exact w_c15
  · exact w_c16
  · exact w_c17
  · exact w_c18
  · exact w_c19
  · exact w_c20
  · exact w_c21
  · exact w_c22
  · exact w_c23
  · exact w_c24
  · exact w_c25
  · exact w_c26
  · exact w_c27
  · exact w_c28
  · exact w_c29
set_option maxRecDepth 65536 in
theorem w_t1 : (words1.take 24).all (fun c => isCode c || c.before args0 about1) = true := by decide +kernel
set_option maxRecDepth 65536 in
theorem w_t2 : ((words1.drop 24).take 24).all (fun c => isCode c || c.before args0 about1) = true := by decide +kernel
set_option maxRecDepth 65536 in
theorem w_t3 : (((words1.drop 24).drop 24).take 24).all (fun c => isCode c || c.before args0 about1) = true := by decide +kernel
set_option maxRecDepth 65536 in
theorem w_t4 : ((((words1.drop 24).drop 24).drop 24).take 24).all (fun c => isCode c || c.before args0 about1) = true := by decide +kernel
set_option maxRecDepth 65536 in
theorem w_t5 : (((((words1.drop 24).drop 24).drop 24).drop 24).take 24).all (fun c => isCode c || c.before args0 about1) = true := by decide +kernel
set_option maxRecDepth 65536 in
theorem w_t6 : (((((words1.drop 24).drop 24).drop 24).drop 24).drop 24).all (fun c => isCode c || c.before args0 about1) = true := by decide +kernel
theorem w_tables : (allAtoms (Jvm.Cond.code x code maxLocals ret :: tables_1)).before args0 about1 = true := by
  rw [allAtoms_all]
  show words1.all (fun c => c.before args0 about1) = true
  refine all_split ?_ w_codes
  rw [← List.take_append_drop 24 words1, List.all_append, w_t1, ← List.take_append_drop 24 (words1.drop 24), List.all_append, w_t2, ← List.take_append_drop 24 ((words1.drop 24).drop 24), List.all_append, w_t3, ← List.take_append_drop 24 (((words1.drop 24).drop 24).drop 24), List.all_append, w_t4, ← List.take_append_drop 24 ((((words1.drop 24).drop 24).drop 24).drop 24), List.all_append, w_t5, w_t6]
  rfl
set_option maxRecDepth 65536 in
theorem w_rest : rest_1_c.before args0 about1 = true := by decide +kernel
set_option maxRecDepth 65536 in
theorem w_case : (Jvm.Cond.and given_1 narrow_1).before args0 about1 = true := by decide +kernel
set_option maxRecDepth 65536 in
theorem w_consts : constsHeld consts_1 about1 := Jvm.Lit.constsHeldB_iff.mp (by decide +kernel)
theorem w_applies : (headSpec (Jvm.Cond.code x code maxLocals ret :: tables_1) room_1).applies x e0.platform about1 = true :=
  (Spec.applies_iff w_frames).mpr ⟨w_running, w_runnable, w_alone, w_named, w_hears, w_ripe, w_room, w_tables⟩
theorem atStart : AtStart classFile x code maxLocals ret World_1 tables_1 room_1 Calls_1 rest_1 Pre_1 launch0 p0 e0 about1 theMethod args0 below0 :=
  ⟨lists_1, trivial, launch0.admits_env _ _ _, launch0.least_env, fairChoices_fair.cas, fairChoices_fair.clock, w_frames, w_args, w_heap, w_applies, ⟨w_consts, trivial⟩, w_rest, w_case⟩
end start1
theorem witness_1 : WitnessClaimed_1 := ⟨start1.p0, start1.e0, start1.about1, start1.theMethod, start1.args0, start1.below0, start1.atStart⟩
end Jvm.Pilot.@@N@@
