import JvmDerived
import JvmDerived.Pilot.@@N@@Statement
import JvmDerived.Pilot.@@N@@Code
set_option linter.unusedVariables false
set_option linter.unusedSimpArgs false

namespace Jvm.Own
open Sem ClassFile Op Lib Jvm.Stand Jvm.Free Jvm.LawKit Jvm.RoadKit
/-! the walk in continuation style: Wlk says that from here the run ends as wanted -/
abbrev JJ : Type := Bool × List String × List (String × Nat × Addr)
abbrev Cx : Type := Program × Launch × Env × State × MethodId × Array Value × List Frame × Method × Code
abbrev Cx.p (G : Cx) : Program := G.1
abbrev Cx.l (G : Cx) : Launch := G.2.1
abbrev Cx.e (G : Cx) : Env := G.2.2.1
abbrev Cx.s (G : Cx) : State := G.2.2.2.1
abbrev Cx.m (G : Cx) : MethodId := G.2.2.2.2.1
abbrev Cx.args (G : Cx) : Array Value := G.2.2.2.2.2.1
abbrev Cx.below (G : Cx) : List Frame := G.2.2.2.2.2.2.1
abbrev Cx.meth (G : Cx) : Method := G.2.2.2.2.2.2.2.1
abbrev Cx.c (G : Cx) : Code := G.2.2.2.2.2.2.2.2
/-- the texts loaded since the case's start; the entries known to be resolved -/
def Books (Z : State) (vm : Vm) (J : JJ) : Prop := J.1 = true → IB Z vm J.2.1 ∧ ∀ x ∈ J.2.2, Lit (Z.setVm vm) x.1 x.2.1 x.2.2
theorem Books.warm {Z s : State} {vm0 vm1 : Vm} {J : JJ} (B : Books Z vm0 J) (h : (s.setVm vm0).WarmedH vm1) : Books Z vm1 J := by
  intro hj
  refine ⟨?_, fun x hx => ?_⟩
  · obtain ⟨more, e, r⟩ := (B hj).1
    exact ⟨more, h.interned_eq.trans e, r⟩
  · exact Lit.stays (s := s) ((B hj).2 x hx) h.wide
def EndM (w : Bool) (s : State) (o : Outcome) (t : State) (L : List Loc) (k n : Nat) : Prop := ReturnedEndW s o t L k n ∧ (w = false → s.WarmedH t.vm)
def Pos (G : Cx) (R : Room) (Z : State) (own : String) (w : Bool) (J : JJ) (T : State) (h : Heap) (L : List Loc) (k n : Nat) : Prop :=
  ∃ (vm0 : Vm) (k0 : Nat), Stand G.p G.l G.e R (G.s.setVm vm0) G.m G.args G.below G.meth G.c T L k n ∧ T.heap = h ∧ G.s.Since vm0 k0 ∧ k0 ≤ h.size ∧ Z.Warmed39 vm0 ∧ vm0.findClass own = some G.m.cls ∧ (w = false → vm0 = G.s.vm) ∧ (w = true → Books Z vm0 J) ∧ Ext Z.heap h ∧ Fr Z.heap.size L
def Go (G : Cx) (R : Room) (Z : State) (w : Bool) (Q : Option Value → Heap → JJ → Prop) (U : State) : Prop :=
  ∃ (s₂ : State) (o : Outcome), Steps G.p.tables G.e G.below U s₂ ∧ s₂.status = .running ∧ Ended s₂ G.below o ∧
    ∃ (v : Option Value) (L : List Loc) (J' : JJ), o = .returned v ∧ (Q v s₂.heap J' ∧ Fr Z.heap.size L ∧ Ext Z.heap s₂.heap ∧ (w = true → Books Z s₂.vm J')) ∧ EndM w G.s o s₂ L R.cells R.slots
def Cok (G : Cx) (y : MethodName) (code : ByteArray) (ret : Option FieldType) : Prop :=
  G.p.tables.exec = Jvm.exec ∧ G.c.code = code ∧ G.meth.sig.returnType = ret ∧ G.meth.locks = false ∧ G.meth.name = y.name
def Wlk (G : Cx) (R : Room) (Z : State) (y : MethodName) (code : ByteArray) (ret : Option FieldType) (w : Bool) (J : JJ) (Q : Option Value → Heap → JJ → Prop) (h : Heap) (k n pc : Nat) (Ls : Array Slot) (st : List Value) : Prop :=
  Cok G y code ret → Ls.size = G.c.maxLocals → ∀ (T : State) (L : List Loc), Pos G R Z y.cls w J T h L k n → Go G R Z w Q (T.setTop (mkF G.m pc Ls st))
/-- what a body does: from the arguments and the heap h it returns as Q says -/
def Met (l : Launch) (Z : State) (y : MethodName) (code : ByteArray) (ml : Nat) (ret : Option FieldType) (w : Bool) (ws : List Jvm.Cond) (rm : Room) (as' : Array Value) (h : Heap) (J : JJ) (Q : Option Value → Heap → JJ → Prop) : Prop :=
  MetFree l y (head1 (Jvm.Cond.code y code ml ret :: ws) rm) (fun a U => a = as' ∧ Z.Warmed39 U.vm ∧ U.heap = h ∧ Ext Z.heap h ∧ (w = true → Books Z U.vm J)) (fun _ _ _ _ _ => True)
    (fun _ U o U' => ∃ (v : Option Value) (L : List Loc) (J' : JJ), o = .returned v ∧ (Q v U'.heap J' ∧ Fr Z.heap.size L ∧ Ext Z.heap U'.heap ∧ (w = true → Books Z U'.vm J')) ∧ EndM w U o U' L rm.cells rm.slots)
theorem Met.of_goes {l : Launch} {Z : State} {y : MethodName} {code : ByteArray} {ml : Nat} {ret : Option FieldType} {w : Bool} {ws : List Jvm.Cond} {rm : Room} {as' : Array Value} {h : Heap} {J : JJ} {Q : Option Value → Heap → JJ → Prop}
    (hx : plainFor y = true) {Ls : Array Slot} (hef : ∀ m, entryFrame m as' ml = mkF m 0 Ls []) (hsz : Ls.size = ml) (H : ∀ G : Cx, G.l = l → Wlk G rm Z y code ret w J Q h 0 0 0 Ls []) : Met l Z y code ml ret w ws rm as' h J Q := by
  refine MetFree.of_bodySF hx hisR ?_
  intro p e s m args below meth c s₁ Bd hml hP hK
  obtain ⟨rfl, hZ, hh, hE, hB⟩ := hP
  have X0 : Stand p l e rm s m args below meth c s₁ [] 0 0 := Stand.of_body Bd
  obtain ⟨s₂, o, hs, r⟩ := H (p, l, e, s, m, args, below, meth, c) rfl ⟨Bd.exec, Bd.bytes, Bd.returns, Bd.notSynchronized, (name_of_methodNamed Bd.named Bd.method).1⟩ (hsz.trans hml.symm) s₁ [] ⟨s.vm, 0, X0, by rw [← hh, Bd.state]; rfl, (State.WarmedH.refl s).since 0, Nat.zero_le _, hZ, findClass_of_methodNamed Bd.named, fun _ => rfl, hB, hE, Fr.nil _⟩
  exact ⟨s₂, o, castTop (hef m) hs, r⟩
section Walk
variable {G : Cx} {R : Room} {Z : State} {y : MethodName} {code : ByteArray} {ret : Option FieldType} {w : Bool} {J : JJ} {Q : Option Value → Heap → JJ → Prop} {h : Heap} {k n pc pc' : Nat} {Ls Ls' : Array Slot} {st st' : List Value} {a0 : Array Value}
theorem Wlk.plain (hz : Ls'.size = Ls.size) (hstep : Cok G y code ret → ∀ (T target : State), At T G.m G.c G.below → Steps G.p.tables G.e G.below (T.setTop (mkF G.m pc' Ls' st')) target → Steps G.p.tables G.e G.below (T.setTop (mkF G.m pc Ls st)) target) (H : Wlk G R Z y code ret w J Q h k n pc' Ls' st') : Wlk G R Z y code ret w J Q h k n pc Ls st := by
  intro hG hsz T L hP
  obtain ⟨s₂, o, hs, r⟩ := H hG (hz.trans hsz) T L hP
  obtain ⟨vm0, k0, X, -⟩ := hP
  exact ⟨s₂, o, hstep hG T _ X.here hs, r⟩
/-- a step that reads the tables or the heap and changes no cell -/
theorem Wlk.reads (hz : Ls'.size = Ls.size) (hstep : ∀ (vm0 : Vm) (T : State) (L : List Loc), Cok G y code ret → Ls.size = G.c.maxLocals → Stand G.p G.l G.e R (G.s.setVm vm0) G.m G.args G.below G.meth G.c T L k n → T.heap = h → Z.Warmed39 vm0 → vm0.findClass y.cls = some G.m.cls → Ext Z.heap h →
      ∃ T' : State, Stand G.p G.l G.e R (G.s.setVm vm0) G.m G.args G.below G.meth G.c T' L k n ∧ T'.heap = h ∧ ∀ target, Steps G.p.tables G.e G.below (T'.setTop (mkF G.m pc' Ls' st')) target → Steps G.p.tables G.e G.below (T.setTop (mkF G.m pc Ls st)) target)
    (H : Wlk G R Z y code ret w J Q h k n pc' Ls' st') : Wlk G R Z y code ret w J Q h k n pc Ls st := by
  intro hG hsz T L hP
  obtain ⟨vm0, k0, X, eT, hS, hk, hZ, hown, hw, hB, hE, hF⟩ := hP
  obtain ⟨T', X', e', st'⟩ := hstep vm0 T L hG hsz X eT hZ hown hE
  obtain ⟨s₂, o, hs, r⟩ := H hG (hz.trans hsz) T' L ⟨vm0, k0, X', e', hS, hk, hZ, hown, hw, hB, hE, hF⟩
  exact ⟨s₂, o, st' _ hs, r⟩
/-- a step that writes or makes -/
theorem Wlk.moves {k' n' : Nat} (hz : Ls'.size = Ls.size) {P : Heap → Prop} (hstep : ∀ (vm0 : Vm) (T : State) (L : List Loc), Cok G y code ret → Ls.size = G.c.maxLocals → Stand G.p G.l G.e R (G.s.setVm vm0) G.m G.args G.below G.meth G.c T L k n → T.heap = h → Z.Warmed39 vm0 → vm0.findClass y.cls = some G.m.cls → Ext Z.heap h → Fr Z.heap.size L →
      ∃ (T' : State) (h' : Heap) (L' : List Loc), Stand G.p G.l G.e R (G.s.setVm vm0) G.m G.args G.below G.meth G.c T' L' k' n' ∧ T'.heap = h' ∧ h.size ≤ h'.size ∧ Ext Z.heap h' ∧ Fr Z.heap.size L' ∧ P h' ∧ ∀ target, Steps G.p.tables G.e G.below (T'.setTop (mkF G.m pc' Ls' st')) target → Steps G.p.tables G.e G.below (T.setTop (mkF G.m pc Ls st)) target)
    (H : ∀ h', P h' → Wlk G R Z y code ret w J Q h' k' n' pc' Ls' st') : Wlk G R Z y code ret w J Q h k n pc Ls st := by
  intro hG hsz T L hP
  obtain ⟨vm0, k0, X, eT, hS, hk, hZ, hown, hw, hB, hE, hF⟩ := hP
  obtain ⟨T', h', L', X', e', hle, hE', hF', hP', st'⟩ := hstep vm0 T L hG hsz X eT hZ hown hE hF
  obtain ⟨s₂, o, hs, r⟩ := H h' hP' hG (hz.trans hsz) T' L' ⟨vm0, k0, X', e', hS, Nat.le_trans hk hle, hZ, hown, hw, hB, hE', hF'⟩
  exact ⟨s₂, o, st' _ hs, r⟩
theorem Wlk.more {k' n' : Nat} (hk' : k ≤ k') (hn' : n ≤ n') (H : Wlk G R Z y code ret w J Q h k' n' pc Ls st) : Wlk G R Z y code ret w J Q h k n pc Ls st := by
  intro hG hsz T L hP
  obtain ⟨vm0, k0, X, r⟩ := hP
  exact H hG hsz T L ⟨vm0, k0, X.more hk' hn', r⟩
theorem Wlk.ext0 (H : Ext Z.heap h → Wlk G R Z y code ret w J Q h k n pc Ls st) : Wlk G R Z y code ret w J Q h k n pc Ls st := fun hG hsz T L hP => H (by obtain ⟨vm0, k0, X, eT, hS, hk, hZ, hown, hw, hB, hE, hF⟩ := hP; exact hE) hG hsz T L hP
/-- the conditions of a branch, taken and not -/
def cT (cd : ClassFile.Cond) (x z : Int32) : Prop := match cd with
  | .eq => x = z
  | .ne => ¬ x = z
  | .lt => x < z
  | .ge => ¬ x < z
  | .gt => z < x
  | .le => ¬ z < x
def cF (cd : ClassFile.Cond) (x z : Int32) : Prop := match cd with
  | .eq => ¬ x = z
  | .ne => x = z
  | .lt => ¬ x < z
  | .ge => x < z
  | .gt => ¬ z < x
  | .le => z < x
theorem cT_holds {cd : ClassFile.Cond} {x z : Int32} (c : cT cd x z) : if_icmp.holds cd x z = true := by
  cases cd
  · exact (teq c).1
  · exact (feq c).2
  · exact (tlt c).1
  · exact (flt c).2.1
  · exact (tlt c).2.2.1
  · exact (flt c).2.2.2
theorem cF_holds {cd : ClassFile.Cond} {x z : Int32} (c : cF cd x z) : if_icmp.holds cd x z = false := by
  cases cd
  · exact (feq c).1
  · exact (teq c).2
  · exact (flt c).1
  · exact (tlt c).2.1
  · exact (flt c).2.2.1
  · exact (tlt c).2.2.2
theorem cTF (cd : ClassFile.Cond) (x z : Int32) : cT cd x z ∨ cF cd x z := by
  cases cd
  · exact Classical.em (x = z)
  · exact (Classical.em (x = z)).symm
  · exact Classical.em (x < z)
  · exact (Classical.em (x < z)).symm
  · exact Classical.em (z < x)
  · exact (Classical.em (z < x)).symm

theorem Wlk.aloadN {j : Fin 4} {v : Value} (hd : decode code pc = .ok (.aload_n j, 1)) (hl : Ls[j.val]? = some (.val v)) (hv : v.isRef = true) (hp : pc + 1 = pc') (H : Wlk G R Z y code ret w J Q h k n pc' Ls (v :: st)) : Wlk G R Z y code ret w J Q h k n pc Ls st := by
  subst hp
  exact Wlk.plain rfl (fun hG T t hA q => XS.aloadN hA hG.1 rfl (hb hG.2.1 hd) hl hv q) H
theorem Wlk.aload {j : Nat} {v : Value} (hd : decode code pc = .ok (.aload j, 2)) (hl : Ls[j]? = some (.val v)) (hv : v.isRef = true) (hp : pc + 2 = pc') (H : Wlk G R Z y code ret w J Q h k n pc' Ls (v :: st)) : Wlk G R Z y code ret w J Q h k n pc Ls st := by
  subst hp
  exact Wlk.plain rfl (fun hG T t hA q => XS.aload hA hG.1 rfl (hb hG.2.1 hd) hl hv q) H
theorem Wlk.iloadN {j : Fin 4} {v : Int32} (hd : decode code pc = .ok (.iload_n j, 1)) (hl : Ls[j.val]? = some (.val (.int v))) (hp : pc + 1 = pc') (H : Wlk G R Z y code ret w J Q h k n pc' Ls (.int v :: st)) : Wlk G R Z y code ret w J Q h k n pc Ls st := by
  subst hp
  exact Wlk.plain rfl (fun hG T t hA q => XS.iloadN hA hG.1 rfl (hb hG.2.1 hd) hl q) H
theorem Wlk.iload {j : Nat} {v : Int32} (hd : decode code pc = .ok (.iload j, 2)) (hl : Ls[j]? = some (.val (.int v))) (hp : pc + 2 = pc') (H : Wlk G R Z y code ret w J Q h k n pc' Ls (.int v :: st)) : Wlk G R Z y code ret w J Q h k n pc Ls st := by
  subst hp
  exact Wlk.plain rfl (fun hG T t hA q => XS.iload hA hG.1 rfl (hb hG.2.1 hd) hl q) H
theorem Wlk.lloadN {j : Fin 4} {v : Int64} (hd : decode code pc = .ok (.lload_n j, 1)) (hl : Ls[j.val]? = some (.val (.long v))) (hp : pc + 1 = pc') (H : Wlk G R Z y code ret w J Q h k n pc' Ls (.long v :: st)) : Wlk G R Z y code ret w J Q h k n pc Ls st := by
  subst hp
  exact Wlk.plain rfl (fun hG T t hA q => XT.lloadN hA hG.1 rfl (hb hG.2.1 hd) hl q) H
theorem Wlk.lload {j : Nat} {v : Int64} (hd : decode code pc = .ok (.lload j, 2)) (hl : Ls[j]? = some (.val (.long v))) (hp : pc + 2 = pc') (H : Wlk G R Z y code ret w J Q h k n pc' Ls (.long v :: st)) : Wlk G R Z y code ret w J Q h k n pc Ls st := by
  subst hp
  exact Wlk.plain rfl (fun hG T t hA q => XT.lload hA hG.1 rfl (hb hG.2.1 hd) hl q) H
theorem Wlk.iconst {i : Int} {v : Int32} (hd : decode code pc = .ok (.iconst i, 1)) (hv : Int32.ofInt i = v) (hp : pc + 1 = pc') (H : Wlk G R Z y code ret w J Q h k n pc' Ls (.int v :: st)) : Wlk G R Z y code ret w J Q h k n pc Ls st := by
  subst hp
  exact Wlk.plain rfl (fun hG T t hA q => XS.iconst hA hG.1 rfl (hb hG.2.1 hd) (by rw [hv]; exact q)) H
theorem Wlk.bipush {i : Int} {v : Int32} (hd : decode code pc = .ok (.bipush i, 2)) (hv : (Int8.ofInt i).toInt32 = v) (hp : pc + 2 = pc') (H : Wlk G R Z y code ret w J Q h k n pc' Ls (.int v :: st)) : Wlk G R Z y code ret w J Q h k n pc Ls st := by
  subst hp
  exact Wlk.plain rfl (fun hG T t hA q => XS.bipush hA hG.1 rfl (hb hG.2.1 hd) (by rw [hv]; exact q)) H
theorem Wlk.sipush {i : Int} {v : Int32} (hd : decode code pc = .ok (.sipush i, 3)) (hv : (Int16.ofInt i).toInt32 = v) (hp : pc + 3 = pc') (H : Wlk G R Z y code ret w J Q h k n pc' Ls (.int v :: st)) : Wlk G R Z y code ret w J Q h k n pc Ls st := by
  subst hp
  exact Wlk.plain rfl (fun hG T t hA q => XS.sipush hA hG.1 rfl (hb hG.2.1 hd) (by rw [hv]; exact q)) H
theorem Wlk.lconst {j : Fin 2} {v : Int64} (hd : decode code pc = .ok (.lconst j, 1)) (hv : Int64.ofNat j = v) (hp : pc + 1 = pc') (H : Wlk G R Z y code ret w J Q h k n pc' Ls (.long v :: st)) : Wlk G R Z y code ret w J Q h k n pc Ls st := by
  subst hp
  exact Wlk.plain rfl (fun hG T t hA q => XT.lconst hA hG.1 rfl (hb hG.2.1 hd) (by rw [hv]; exact q)) H
theorem Wlk.aconstNull  (hd : decode code pc = .ok (.aconst_null, 1)) (hp : pc + 1 = pc') (H : Wlk G R Z y code ret w J Q h k n pc' Ls (.null :: st)) : Wlk G R Z y code ret w J Q h k n pc Ls st := by
  subst hp
  exact Wlk.plain rfl (fun hG T t hA q => XS.aconstNull hA hG.1 rfl (hb hG.2.1 hd) q) H
theorem Wlk.iadd {x z : Int32} (hd : decode code pc = .ok (.iadd, 1)) (hp : pc + 1 = pc') (H : Wlk G R Z y code ret w J Q h k n pc' Ls (.int (x + z) :: st)) : Wlk G R Z y code ret w J Q h k n pc Ls (.int z :: .int x :: st) := by
  subst hp
  exact Wlk.plain rfl (fun hG T t hA q => XS.iadd hA hG.1 rfl (hb hG.2.1 hd) rfl q) H
theorem Wlk.isub {x z : Int32} (hd : decode code pc = .ok (.isub, 1)) (hp : pc + 1 = pc') (H : Wlk G R Z y code ret w J Q h k n pc' Ls (.int (x - z) :: st)) : Wlk G R Z y code ret w J Q h k n pc Ls (.int z :: .int x :: st) := by
  subst hp
  exact Wlk.plain rfl (fun hG T t hA q => XS.isub hA hG.1 rfl (hb hG.2.1 hd) rfl q) H
theorem Wlk.imul {x z : Int32} (hd : decode code pc = .ok (.imul, 1)) (hp : pc + 1 = pc') (H : Wlk G R Z y code ret w J Q h k n pc' Ls (.int (x * z) :: st)) : Wlk G R Z y code ret w J Q h k n pc Ls (.int z :: .int x :: st) := by
  subst hp
  exact Wlk.plain rfl (fun hG T t hA q => XS.imul hA hG.1 rfl (hb hG.2.1 hd) rfl q) H
theorem Wlk.iand {x z : Int32} (hd : decode code pc = .ok (.iand, 1)) (hp : pc + 1 = pc') (H : Wlk G R Z y code ret w J Q h k n pc' Ls (.int (x &&& z) :: st)) : Wlk G R Z y code ret w J Q h k n pc Ls (.int z :: .int x :: st) := by
  subst hp
  exact Wlk.plain rfl (fun hG T t hA q => XS.iand hA hG.1 rfl (hb hG.2.1 hd) rfl q) H
theorem Wlk.ior {x z : Int32} (hd : decode code pc = .ok (.ior, 1)) (hp : pc + 1 = pc') (H : Wlk G R Z y code ret w J Q h k n pc' Ls (.int (x ||| z) :: st)) : Wlk G R Z y code ret w J Q h k n pc Ls (.int z :: .int x :: st) := by
  subst hp
  exact Wlk.plain rfl (fun hG T t hA q => XT.ior hA hG.1 rfl (hb hG.2.1 hd) rfl q) H
theorem Wlk.ixor {x z : Int32} (hd : decode code pc = .ok (.ixor, 1)) (hp : pc + 1 = pc') (H : Wlk G R Z y code ret w J Q h k n pc' Ls (.int (x ^^^ z) :: st)) : Wlk G R Z y code ret w J Q h k n pc Ls (.int z :: .int x :: st) := by
  subst hp
  exact Wlk.plain rfl (fun hG T t hA q => XT.ixor hA hG.1 rfl (hb hG.2.1 hd) rfl q) H
theorem Wlk.irem {x z : Int32} (hd : decode code pc = .ok (.irem, 1)) (hne : z ≠ 0) (hp : pc + 1 = pc') (H : Wlk G R Z y code ret w J Q h k n pc' Ls (.int (x % z) :: st)) : Wlk G R Z y code ret w J Q h k n pc Ls (.int z :: .int x :: st) := by
  subst hp
  exact Wlk.reads rfl (fun vm0 T L hG hsz X eT hZ hown hE => ⟨T, X, eT, fun t q => iremM (g := mkF G.m pc Ls (.int z :: .int x :: st)) X hG.1 rfl (hb hG.2.1 hd) rfl hne q⟩) H
theorem Wlk.idiv {x z : Int32} (hd : decode code pc = .ok (.idiv, 1)) (hne : z ≠ 0) (hp : pc + 1 = pc') (H : Wlk G R Z y code ret w J Q h k n pc' Ls (.int (x / z) :: st)) : Wlk G R Z y code ret w J Q h k n pc Ls (.int z :: .int x :: st) := by
  subst hp
  exact Wlk.plain rfl (fun hG T t hA q => XS.idiv hA hG.1 rfl (hb hG.2.1 hd) rfl hne q) H
theorem Wlk.ishl {x z : Int32} (hd : decode code pc = .ok (.ishl, 1)) (hp : pc + 1 = pc') (H : Wlk G R Z y code ret w J Q h k n pc' Ls (.int (x <<< (z &&& 31)) :: st)) : Wlk G R Z y code ret w J Q h k n pc Ls (.int z :: .int x :: st) := by
  subst hp
  exact Wlk.plain rfl (fun hG T t hA q => XT.ishl hA hG.1 rfl (hb hG.2.1 hd) rfl q) H
theorem Wlk.ishr {x z : Int32} (hd : decode code pc = .ok (.ishr, 1)) (hp : pc + 1 = pc') (H : Wlk G R Z y code ret w J Q h k n pc' Ls (.int (x >>> (z &&& 31)) :: st)) : Wlk G R Z y code ret w J Q h k n pc Ls (.int z :: .int x :: st) := by
  subst hp
  exact Wlk.plain rfl (fun hG T t hA q => XT.ishr hA hG.1 rfl (hb hG.2.1 hd) rfl q) H
theorem Wlk.iushr {x z : Int32} (hd : decode code pc = .ok (.iushr, 1)) (hp : pc + 1 = pc') (H : Wlk G R Z y code ret w J Q h k n pc' Ls (.int ((x.toUInt32 >>> (z &&& 31).toUInt32).toInt32) :: st)) : Wlk G R Z y code ret w J Q h k n pc Ls (.int z :: .int x :: st) := by
  subst hp
  exact Wlk.plain rfl (fun hG T t hA q => XT.iushr hA hG.1 rfl (hb hG.2.1 hd) rfl q) H
theorem Wlk.ladd {x z : Int64} (hd : decode code pc = .ok (.ladd, 1)) (hp : pc + 1 = pc') (H : Wlk G R Z y code ret w J Q h k n pc' Ls (.long (x + z) :: st)) : Wlk G R Z y code ret w J Q h k n pc Ls (.long z :: .long x :: st) := by
  subst hp
  exact Wlk.plain rfl (fun hG T t hA q => XT.ladd hA hG.1 rfl (hb hG.2.1 hd) rfl q) H
theorem Wlk.lsub {x z : Int64} (hd : decode code pc = .ok (.lsub, 1)) (hp : pc + 1 = pc') (H : Wlk G R Z y code ret w J Q h k n pc' Ls (.long (x - z) :: st)) : Wlk G R Z y code ret w J Q h k n pc Ls (.long z :: .long x :: st) := by
  subst hp
  exact Wlk.plain rfl (fun hG T t hA q => XT.lsub hA hG.1 rfl (hb hG.2.1 hd) rfl q) H
theorem Wlk.lmul {x z : Int64} (hd : decode code pc = .ok (.lmul, 1)) (hp : pc + 1 = pc') (H : Wlk G R Z y code ret w J Q h k n pc' Ls (.long (x * z) :: st)) : Wlk G R Z y code ret w J Q h k n pc Ls (.long z :: .long x :: st) := by
  subst hp
  exact Wlk.plain rfl (fun hG T t hA q => XT.lmul hA hG.1 rfl (hb hG.2.1 hd) rfl q) H
theorem Wlk.land {x z : Int64} (hd : decode code pc = .ok (.land, 1)) (hp : pc + 1 = pc') (H : Wlk G R Z y code ret w J Q h k n pc' Ls (.long (x &&& z) :: st)) : Wlk G R Z y code ret w J Q h k n pc Ls (.long z :: .long x :: st) := by
  subst hp
  exact Wlk.plain rfl (fun hG T t hA q => XT.land hA hG.1 rfl (hb hG.2.1 hd) rfl q) H
theorem Wlk.lor {x z : Int64} (hd : decode code pc = .ok (.lor, 1)) (hp : pc + 1 = pc') (H : Wlk G R Z y code ret w J Q h k n pc' Ls (.long (x ||| z) :: st)) : Wlk G R Z y code ret w J Q h k n pc Ls (.long z :: .long x :: st) := by
  subst hp
  exact Wlk.plain rfl (fun hG T t hA q => XT.lor hA hG.1 rfl (hb hG.2.1 hd) rfl q) H
theorem Wlk.lxor {x z : Int64} (hd : decode code pc = .ok (.lxor, 1)) (hp : pc + 1 = pc') (H : Wlk G R Z y code ret w J Q h k n pc' Ls (.long (x ^^^ z) :: st)) : Wlk G R Z y code ret w J Q h k n pc Ls (.long z :: .long x :: st) := by
  subst hp
  exact Wlk.plain rfl (fun hG T t hA q => XT.lxor hA hG.1 rfl (hb hG.2.1 hd) rfl q) H
theorem Wlk.ineg {x : Int32} (hd : decode code pc = .ok (.ineg, 1)) (hp : pc + 1 = pc') (H : Wlk G R Z y code ret w J Q h k n pc' Ls (.int (-x) :: st)) : Wlk G R Z y code ret w J Q h k n pc Ls (.int x :: st) := by
  subst hp
  exact Wlk.plain rfl (fun hG T t hA q => XS.ineg hA hG.1 rfl (hb hG.2.1 hd) rfl q) H
theorem Wlk.lushr {x : Int64} {z : Int32} (hd : decode code pc = .ok (.lushr, 1)) (hp : pc + 1 = pc') (H : Wlk G R Z y code ret w J Q h k n pc' Ls (.long (XT.ushrL x z) :: st)) : Wlk G R Z y code ret w J Q h k n pc Ls (.int z :: .long x :: st) := by
  subst hp
  exact Wlk.plain rfl (fun hG T t hA q => XT.lushr hA hG.1 rfl (hb hG.2.1 hd) rfl q) H
theorem Wlk.i2l {x : Int32} (hd : decode code pc = .ok (.i2l, 1)) (hp : pc + 1 = pc') (H : Wlk G R Z y code ret w J Q h k n pc' Ls (.long x.toInt64 :: st)) : Wlk G R Z y code ret w J Q h k n pc Ls (.int x :: st) := by
  subst hp
  exact Wlk.plain rfl (fun hG T t hA q => XT.i2l hA hG.1 rfl (hb hG.2.1 hd) rfl q) H
theorem Wlk.l2i {x : Int64} (hd : decode code pc = .ok (.l2i, 1)) (hp : pc + 1 = pc') (H : Wlk G R Z y code ret w J Q h k n pc' Ls (.int x.toInt32 :: st)) : Wlk G R Z y code ret w J Q h k n pc Ls (.long x :: st) := by
  subst hp
  exact Wlk.plain rfl (fun hG T t hA q => XT.l2i hA hG.1 rfl (hb hG.2.1 hd) rfl q) H
theorem Wlk.i2c {x : Int32} (hd : decode code pc = .ok (.i2c, 1)) (hp : pc + 1 = pc') (H : Wlk G R Z y code ret w J Q h k n pc' Ls (.int x.toUInt32.toUInt16.toUInt32.toInt32 :: st)) : Wlk G R Z y code ret w J Q h k n pc Ls (.int x :: st) := by
  subst hp
  exact Wlk.plain rfl (fun hG T t hA q => XT.i2c hA hG.1 rfl (hb hG.2.1 hd) rfl q) H
theorem Wlk.i2b {x : Int32} (hd : decode code pc = .ok (.i2b, 1)) (hp : pc + 1 = pc') (H : Wlk G R Z y code ret w J Q h k n pc' Ls (.int x.toInt8.toInt32 :: st)) : Wlk G R Z y code ret w J Q h k n pc Ls (.int x :: st) := by
  subst hp
  exact Wlk.plain rfl (fun hG T t hA q => XT.i2b hA hG.1 rfl (hb hG.2.1 hd) rfl q) H
theorem Wlk.i2s {x : Int32} (hd : decode code pc = .ok (.i2s, 1)) (hp : pc + 1 = pc') (H : Wlk G R Z y code ret w J Q h k n pc' Ls (.int x.toInt16.toInt32 :: st)) : Wlk G R Z y code ret w J Q h k n pc Ls (.int x :: st) := by
  subst hp
  exact Wlk.plain rfl (fun hG T t hA q => XT.i2s hA hG.1 rfl (hb hG.2.1 hd) rfl q) H
theorem Wlk.lcmp {x z : Int64} (hd : decode code pc = .ok (.lcmp, 1)) (hp : pc + 1 = pc') (H : Wlk G R Z y code ret w J Q h k n pc' Ls (.int (lcmpW x z) :: st)) : Wlk G R Z y code ret w J Q h k n pc Ls (.long z :: .long x :: st) := by
  subst hp
  exact Wlk.plain rfl (fun hG T t hA q => XT.lcmp hA hG.1 rfl (hb hG.2.1 hd) rfl q) H
theorem Wlk.dup {x : Value} (hd : decode code pc = .ok (.dup, 1)) (hc : x.category = 1) (hp : pc + 1 = pc') (H : Wlk G R Z y code ret w J Q h k n pc' Ls (x :: x :: st)) : Wlk G R Z y code ret w J Q h k n pc Ls (x :: st) := by
  subst hp
  exact Wlk.plain rfl (fun hG T t hA q => XS.dup hA hG.1 rfl (hb hG.2.1 hd) rfl hc q) H
theorem Wlk.pop {x : Value} (hd : decode code pc = .ok (.pop, 1)) (hc : x.category = 1) (hp : pc + 1 = pc') (H : Wlk G R Z y code ret w J Q h k n pc' Ls st) : Wlk G R Z y code ret w J Q h k n pc Ls (x :: st) := by
  subst hp
  exact Wlk.plain rfl (fun hG T t hA q => XT.pop hA hG.1 rfl (hb hG.2.1 hd) rfl hc q) H
theorem Wlk.dupX1 {x z : Value} (hd : decode code pc = .ok (.dup_x1, 1)) (hc : x.category = 1) (hc' : z.category = 1) (hp : pc + 1 = pc') (H : Wlk G R Z y code ret w J Q h k n pc' Ls (x :: z :: x :: st)) : Wlk G R Z y code ret w J Q h k n pc Ls (x :: z :: st) := by
  subst hp
  exact Wlk.plain rfl (fun hG T t hA q => XT.dupX1 hA hG.1 rfl (hb hG.2.1 hd) rfl hc hc' q) H
theorem Wlk.dup2 {x z : Value} (hd : decode code pc = .ok (.dup2, 1)) (hc : x.category = 1) (hc' : z.category = 1) (hp : pc + 1 = pc') (H : Wlk G R Z y code ret w J Q h k n pc' Ls (x :: z :: x :: z :: st)) : Wlk G R Z y code ret w J Q h k n pc Ls (x :: z :: st) := by
  subst hp
  exact Wlk.plain rfl (fun hG T t hA q => XT.dup2 hA hG.1 rfl (hb hG.2.1 hd) rfl hc hc' q) H
theorem Wlk.istoreN {j : Fin 4} {x : Int32} (hd : decode code pc = .ok (.istore_n j, 1)) (hl : storeLocals Ls j.val (.int x) = some Ls') (hz : Ls'.size = Ls.size) (hp : pc + 1 = pc') (H : Wlk G R Z y code ret w J Q h k n pc' Ls' st) : Wlk G R Z y code ret w J Q h k n pc Ls (.int x :: st) := by
  subst hp
  exact Wlk.plain hz (fun hG T t hA q => XS.istoreN hA hG.1 rfl (hb hG.2.1 hd) rfl hl q) H
theorem Wlk.istore {j : Nat} {x : Int32} (hd : decode code pc = .ok (.istore j, 2)) (hl : storeLocals Ls j (.int x) = some Ls') (hz : Ls'.size = Ls.size) (hp : pc + 2 = pc') (H : Wlk G R Z y code ret w J Q h k n pc' Ls' st) : Wlk G R Z y code ret w J Q h k n pc Ls (.int x :: st) := by
  subst hp
  exact Wlk.plain hz (fun hG T t hA q => XS.istore hA hG.1 rfl (hb hG.2.1 hd) rfl hl q) H
theorem Wlk.astoreN {j : Fin 4} {x : Value} (hd : decode code pc = .ok (.astore_n j, 1)) (hv : x.isRef = true) (hl : storeLocals Ls j.val x = some Ls') (hz : Ls'.size = Ls.size) (hp : pc + 1 = pc') (H : Wlk G R Z y code ret w J Q h k n pc' Ls' st) : Wlk G R Z y code ret w J Q h k n pc Ls (x :: st) := by
  subst hp
  exact Wlk.plain hz (fun hG T t hA q => XS.astoreN hA hG.1 rfl (hb hG.2.1 hd) rfl hv hl q) H
theorem Wlk.astore {j : Nat} {x : Value} (hd : decode code pc = .ok (.astore j, 2)) (hv : x.isRef = true) (hl : storeLocals Ls j x = some Ls') (hz : Ls'.size = Ls.size) (hp : pc + 2 = pc') (H : Wlk G R Z y code ret w J Q h k n pc' Ls' st) : Wlk G R Z y code ret w J Q h k n pc Ls (x :: st) := by
  subst hp
  exact Wlk.plain hz (fun hG T t hA q => XS.astore hA hG.1 rfl (hb hG.2.1 hd) rfl hv hl q) H
theorem Wlk.lstoreN {j : Fin 4} {x : Int64} (hd : decode code pc = .ok (.lstore_n j, 1)) (hl : storeLocals Ls j.val (.long x) = some Ls') (hz : Ls'.size = Ls.size) (hp : pc + 1 = pc') (H : Wlk G R Z y code ret w J Q h k n pc' Ls' st) : Wlk G R Z y code ret w J Q h k n pc Ls (.long x :: st) := by
  subst hp
  exact Wlk.plain hz (fun hG T t hA q => XT.lstoreN hA hG.1 rfl (hb hG.2.1 hd) rfl hl q) H
theorem Wlk.lstore {j : Nat} {x : Int64} (hd : decode code pc = .ok (.lstore j, 2)) (hl : storeLocals Ls j (.long x) = some Ls') (hz : Ls'.size = Ls.size) (hp : pc + 2 = pc') (H : Wlk G R Z y code ret w J Q h k n pc' Ls' st) : Wlk G R Z y code ret w J Q h k n pc Ls (.long x :: st) := by
  subst hp
  exact Wlk.plain hz (fun hG T t hA q => XT.lstore hA hG.1 rfl (hb hG.2.1 hd) rfl hl q) H
theorem Wlk.iinc {j : Nat} {cst : Int} {x v : Int32} (hd : decode code pc = .ok (.iinc j cst, 3)) (hv : Int32.ofInt cst = v) (hl : Ls[j]? = some (.val (.int x))) (hs : storeLocals Ls j (.int (x + v)) = some Ls') (hz : Ls'.size = Ls.size) (hp : pc + 3 = pc') (H : Wlk G R Z y code ret w J Q h k n pc' Ls' st) : Wlk G R Z y code ret w J Q h k n pc Ls st := by
  subst hp
  exact Wlk.plain hz (fun hG T t hA q => XT.iincV hA hG.1 rfl v (hb hG.2.1 hd) hv hl hs q) H
theorem Wlk.goto {o : Int} (hd : decode code pc = .ok (.goto o, 3)) (ho : 0 ≤ (pc : Int) + o) (hp : ((pc : Int) + o).toNat = pc') (H : Wlk G R Z y code ret w J Q h k n pc' Ls st) : Wlk G R Z y code ret w J Q h k n pc Ls st :=
  Wlk.plain rfl (fun hG T t hA q => XS.goto hA hG.1 rfl (pc0 := pc) rfl (hb hG.2.1 hd) ho hp q) H
theorem Wlk.ifT {cd : ClassFile.Cond} {o : Int} {x : Int32} (hd : decode code pc = .ok (.ifCond cd o, 3)) (ho : 0 ≤ (pc : Int) + o) (hp : ((pc : Int) + o).toNat = pc') (c : cT cd x 0) (H : Wlk G R Z y code ret w J Q h k n pc' Ls st) : Wlk G R Z y code ret w J Q h k n pc Ls (.int x :: st) :=
  Wlk.plain rfl (fun hG T t hA q => XS.ifYes hA hG.1 rfl (pc0 := pc) rfl (hb hG.2.1 hd) rfl ((if0 _ _).trans (cT_holds c)) ho hp q) H
theorem Wlk.ifF {cd : ClassFile.Cond} {o : Int} {x : Int32} (hd : decode code pc = .ok (.ifCond cd o, 3)) (c : cF cd x 0) (hp : pc + 3 = pc') (H : Wlk G R Z y code ret w J Q h k n pc' Ls st) : Wlk G R Z y code ret w J Q h k n pc Ls (.int x :: st) := by
  subst hp
  exact Wlk.plain rfl (fun hG T t hA q => XS.ifNo hA hG.1 rfl (hb hG.2.1 hd) rfl ((if0 _ _).trans (cF_holds c)) q) H
theorem Wlk.icT {cd : ClassFile.Cond} {o : Int} {x z : Int32} (hd : decode code pc = .ok (.if_icmp cd o, 3)) (ho : 0 ≤ (pc : Int) + o) (hp : ((pc : Int) + o).toNat = pc') (c : cT cd x z) (H : Wlk G R Z y code ret w J Q h k n pc' Ls st) : Wlk G R Z y code ret w J Q h k n pc Ls (.int z :: .int x :: st) :=
  Wlk.plain rfl (fun hG T t hA q => XS.icmpYes hA hG.1 rfl (pc0 := pc) rfl (hb hG.2.1 hd) rfl (cT_holds c) ho hp q) H
theorem Wlk.icF {cd : ClassFile.Cond} {o : Int} {x z : Int32} (hd : decode code pc = .ok (.if_icmp cd o, 3)) (c : cF cd x z) (hp : pc + 3 = pc') (H : Wlk G R Z y code ret w J Q h k n pc' Ls st) : Wlk G R Z y code ret w J Q h k n pc Ls (.int z :: .int x :: st) := by
  subst hp
  exact Wlk.plain rfl (fun hG T t hA q => XS.icmpNo hA hG.1 rfl (hb hG.2.1 hd) rfl (cF_holds c) q) H
theorem Wlk.if_ {cd : ClassFile.Cond} {o : Int} {x : Int32} {pcT pcF : Nat} (hd : decode code pc = .ok (.ifCond cd o, 3)) (ho : 0 ≤ (pc : Int) + o) (hT : ((pc : Int) + o).toNat = pcT) (hF : pc + 3 = pcF) (H1 : cT cd x 0 → Wlk G R Z y code ret w J Q h k n pcT Ls st) (H2 : cF cd x 0 → Wlk G R Z y code ret w J Q h k n pcF Ls st) : Wlk G R Z y code ret w J Q h k n pc Ls (.int x :: st) :=
  (cTF cd x 0).elim (fun c => Wlk.ifT hd ho hT c (H1 c)) (fun c => Wlk.ifF hd c hF (H2 c))
theorem Wlk.ic_ {cd : ClassFile.Cond} {o : Int} {x z : Int32} {pcT pcF : Nat} (hd : decode code pc = .ok (.if_icmp cd o, 3)) (ho : 0 ≤ (pc : Int) + o) (hT : ((pc : Int) + o).toNat = pcT) (hF : pc + 3 = pcF) (H1 : cT cd x z → Wlk G R Z y code ret w J Q h k n pcT Ls st) (H2 : cF cd x z → Wlk G R Z y code ret w J Q h k n pcF Ls st) : Wlk G R Z y code ret w J Q h k n pc Ls (.int z :: .int x :: st) :=
  (cTF cd x z).elim (fun c => Wlk.icT hd ho hT c (H1 c)) (fun c => Wlk.icF hd c hF (H2 c))
theorem Wlk.ifnullT {o : Int} (hd : decode code pc = .ok (.ifnull o, 3)) (ho : 0 ≤ (pc : Int) + o) (hp : ((pc : Int) + o).toNat = pc') (H : Wlk G R Z y code ret w J Q h k n pc' Ls st) : Wlk G R Z y code ret w J Q h k n pc Ls (.null :: st) :=
  Wlk.plain rfl (fun hG T t hA q => XS.ifnullYes hA hG.1 rfl (pc0 := pc) rfl (hb hG.2.1 hd) rfl ho hp q) H
theorem Wlk.ifnullF {o : Int} {b : Addr} (hd : decode code pc = .ok (.ifnull o, 3)) (hp : pc + 3 = pc') (H : Wlk G R Z y code ret w J Q h k n pc' Ls st) : Wlk G R Z y code ret w J Q h k n pc Ls (.ref b :: st) := by
  subst hp
  exact Wlk.plain rfl (fun hG T t hA q => XS.ifnullNo hA hG.1 rfl (hb hG.2.1 hd) rfl q) H
theorem Wlk.ifnonnullT {o : Int} {b : Addr} (hd : decode code pc = .ok (.ifnonnull o, 3)) (ho : 0 ≤ (pc : Int) + o) (hp : ((pc : Int) + o).toNat = pc') (H : Wlk G R Z y code ret w J Q h k n pc' Ls st) : Wlk G R Z y code ret w J Q h k n pc Ls (.ref b :: st) :=
  Wlk.plain rfl (fun hG T t hA q => XT.ifnonnullYes hA hG.1 rfl (pc0 := pc) rfl (hb hG.2.1 hd) rfl ho hp q) H
theorem Wlk.ifnonnullF {o : Int} (hd : decode code pc = .ok (.ifnonnull o, 3)) (hp : pc + 3 = pc') (H : Wlk G R Z y code ret w J Q h k n pc' Ls st) : Wlk G R Z y code ret w J Q h k n pc Ls (.null :: st) := by
  subst hp
  exact Wlk.plain rfl (fun hG T t hA q => XT.ifnonnullNo hA hG.1 rfl (hb hG.2.1 hd) rfl q) H
theorem Wlk.acmp {cd : ACond} {o : Int} {x z : Value} {same : Bool} (hd : decode code pc = .ok (.if_acmp cd o, 3)) (h1 : x.isRef = true) (h2 : z.isRef = true) (hq : decide (x = z) = same) (ho : 0 ≤ (pc : Int) + o) (hp : pc' = if acV cd same = true then ((pc : Int) + o).toNat else pc + 3) (H : Wlk G R Z y code ret w J Q h k n pc' Ls st) : Wlk G R Z y code ret w J Q h k n pc Ls (z :: x :: st) :=
  Wlk.reads rfl (fun vm0 T L hG hsz X eT hZ hown hE => ⟨T, X, eT, fun t q => Jvm.RoadKit.acmp (g := mkF G.m pc Ls (z :: x :: st)) X hG.1 rfl h1 h2 (pc0 := pc) rfl (hb hG.2.1 hd) rfl hq ho hp q⟩) H
theorem Wlk.ldcI {index : Nat} {v : Int32} (hd : decode code pc = .ok (.ldc index, 2)) (wd : (Cond.constant y.cls index v).before a0 Z = true) (hp : pc + 2 = pc') (H : Wlk G R Z y code ret w J Q h k n pc' Ls (.int v :: st)) : Wlk G R Z y code ret w J Q h k n pc Ls st := by
  subst hp
  exact Wlk.reads rfl (fun vm0 T L hG hsz X eT hZ hown hE => ⟨T, X, eT, fun t q => X.ldcI hG.1 hown (mvT hZ wd) (g := mkF G.m pc Ls st) rfl (hb hG.2.1 hd) q⟩) H
theorem Wlk.ldcWI {index : Nat} {v : Int32} (hd : decode code pc = .ok (.ldc_w index, 3)) (wd : (Cond.constant y.cls index v).before a0 Z = true) (hp : pc + 3 = pc') (H : Wlk G R Z y code ret w J Q h k n pc' Ls (.int v :: st)) : Wlk G R Z y code ret w J Q h k n pc Ls st := by
  subst hp
  exact Wlk.reads rfl (fun vm0 T L hG hsz X eT hZ hown hE => ⟨T, X, eT, fun t q => X.ldcWI hG.1 hown (mvT hZ wd) (g := mkF G.m pc Ls st) rfl (hb hG.2.1 hd) q⟩) H
theorem Wlk.ldc2J {index : Nat} {v : Int64} (hd : decode code pc = .ok (.ldc2_w index, 3)) (wd : (Cond.constantLong y.cls index v).before a0 Z = true) (hp : pc + 3 = pc') (H : Wlk G R Z y code ret w J Q h k n pc' Ls (.long v :: st)) : Wlk G R Z y code ret w J Q h k n pc Ls st := by
  subst hp
  exact Wlk.reads rfl (fun vm0 T L hG hsz X eT hZ hown hE => ⟨T, X, eT, fun t q => X.ldc2J hG.1 hown (mvT hZ wd) (g := mkF G.m pc Ls st) rfl (hb hG.2.1 hd) q⟩) H
theorem Wlk.getF {index : Nat} {R0 O nm d : String} {a : Addr} {v : Value} (hd : decode code pc = .ok (.getfield index, 3)) (wl : (Cond.fieldLink y.cls index R0 nm d).before a0 Z = true) (via : Via Z R0 O nm d) (F : Fld Z h a O nm d v) (hp : pc + 3 = pc') (H : Wlk G R Z y code ret w J Q h k n pc' Ls (v :: st)) : Wlk G R Z y code ret w J Q h k n pc Ls (.ref a :: st) := by
  subst hp
  exact Wlk.reads rfl (fun vm0 T L hG hsz X eT hZ hown hE => Jvm.RoadKit.getF X hG.1 hZ hown (host := "") (Or.inl wl) via eT F (g := mkF G.m pc Ls (.ref a :: st)) rfl rfl (hb hG.2.1 hd)) H
theorem Wlk.getS {index : Nat} {R0 O nm d : String} {v : Value} (hd : decode code pc = .ok (.getstatic index, 3)) (wl : (Cond.fieldLink y.cls index R0 nm d).before a0 Z = true) (via : Via Z R0 O nm d) (F : Sta Z Z.heap O nm d v) (hp : pc + 3 = pc') (H : Wlk G R Z y code ret w J Q h k n pc' Ls (v :: st)) : Wlk G R Z y code ret w J Q h k n pc Ls st := by
  subst hp
  exact Wlk.reads rfl (fun vm0 T L hG hsz X eT hZ hown hE => Jvm.RoadKit.getS (host := "") X hG.1 hZ hown wl via eT (F.ext hE) (g := mkF G.m pc Ls st) rfl (hb hG.2.1 hd)) H
theorem Wlk.castY {index : Nat} {K : String} {a : Addr} (hd : decode code pc = .ok (.checkcast index, 3)) (wl : (Cond.classLink y.cls index K).before a0 Z = true) (F : Ins Z h a K true) (hp : pc + 3 = pc') (H : Wlk G R Z y code ret w J Q h k n pc' Ls (.ref a :: st)) : Wlk G R Z y code ret w J Q h k n pc Ls (.ref a :: st) := by
  subst hp
  exact Wlk.reads rfl (fun vm0 T L hG hsz X eT hZ hown hE => Jvm.RoadKit.castY X hG.1 hZ hown wl eT F (g := mkF G.m pc Ls (.ref a :: st)) rfl rfl (hb hG.2.1 hd)) H
theorem Wlk.castNull {index : Nat} (hd : decode code pc = .ok (.checkcast index, 3)) (hp : pc + 3 = pc') (H : Wlk G R Z y code ret w J Q h k n pc' Ls (.null :: st)) : Wlk G R Z y code ret w J Q h k n pc Ls (.null :: st) := by
  subst hp
  exact Wlk.reads rfl (fun vm0 T L hG hsz X eT hZ hown hE => ⟨T, X, eT, fun t q => X.checkcastNull hG.1 (g := mkF G.m pc Ls (.null :: st)) rfl rfl (hb hG.2.1 hd) t q⟩) H
theorem Wlk.instY {index : Nat} {K : String} {a : Addr} (hd : decode code pc = .ok (.instanceof index, 3)) (wl : (Cond.classLink y.cls index K).before a0 Z = true) (F : Ins Z h a K true) (hp : pc + 3 = pc') (H : Wlk G R Z y code ret w J Q h k n pc' Ls (.int 1 :: st)) : Wlk G R Z y code ret w J Q h k n pc Ls (.ref a :: st) := by
  subst hp
  exact Wlk.reads rfl (fun vm0 T L hG hsz X eT hZ hown hE => Jvm.RoadKit.instY X hG.1 hZ hown wl eT F (g := mkF G.m pc Ls (.ref a :: st)) rfl rfl (hb hG.2.1 hd)) H
theorem Wlk.instNull {index : Nat} (hd : decode code pc = .ok (.instanceof index, 3)) (hp : pc + 3 = pc') (H : Wlk G R Z y code ret w J Q h k n pc' Ls (.int 0 :: st)) : Wlk G R Z y code ret w J Q h k n pc Ls (.null :: st) := by
  subst hp
  exact Wlk.reads rfl (fun vm0 T L hG hsz X eT hZ hown hE => ⟨T, X, eT, fun t q => X.instanceofNull hG.1 (g := mkF G.m pc Ls (.null :: st)) rfl rfl (hb hG.2.1 hd) t q⟩) H
theorem Wlk.initO {index : Nat} {a : Addr} {W : Nat} (hd : decode code pc = .ok (.invokespecial index, 3)) (w1 : (Cond.methodLink y.cls index Lib.objectInit).before a0 Z = true) (w2 : (Cond.instanceMethod Lib.objectInit).before a0 Z = true) (w3 : (Cond.code Lib.objectInit ⟨#[0xb1]⟩ 1 none).before a0 Z = true)
    (hf : 1 ≤ R.frames) (hW : (st.map fun v => v.category).sum = W) (hl : W + 12 ≤ R.locals) (hp : pc + 3 = pc') (H : Wlk G R Z y code ret w J Q h k n pc' Ls st) : Wlk G R Z y code ret w J Q h k n pc Ls (.ref a :: st) := by
  subst hp
  exact Wlk.reads rfl (fun vm0 T L hG hsz X eT hZ hown hE => Jvm.RoadKit.initO X hG.1 hZ hown w1 w2 w3 eT (g := mkF G.m pc Ls (.ref a :: st)) rfl hsz rfl (hb hG.2.1 hd) hf (W := W) (by show 2 * 0 + _ ≤ _; omega) hl) H
theorem Wlk.newO {index sl : Nat} {C : String} (hd : decode code pc = .ok (.new index, 3)) (wl : (Cond.classLink y.cls index C).before a0 Z = true) (wi : (Cond.instantiable C sl).before a0 Z = true) (wz : (Cond.initialized C).before a0 Z = true) (hc : k + 1 ≤ R.cells) (hl : n + sl ≤ R.slots) (hp : pc + 3 = pc')
    (H : ∀ (a : Addr) (h' : Heap), h.size ≤ a → Z.heap.size ≤ a → Ext h h' → Exa Z h' a C → (∀ {O nm d : String} {ty : FieldType}, Laid Z a0 C O nm d → parseFieldDescriptor d = some ty → Fld Z h' a O nm d (defaultValue ty)) → Wlk G R Z y code ret w J Q h' (k + 1) (n + sl) pc' Ls (.ref a :: st)) : Wlk G R Z y code ret w J Q h k n pc Ls st := by
  subst hp
  refine Wlk.moves (P := fun h' => Z.heap.size ≤ h.size ∧ Ext h h' ∧ Exa Z h' h.size C ∧ (∀ {O nm d : String} {ty : FieldType}, Laid Z a0 C O nm d → parseFieldDescriptor d = some ty → Fld Z h' h.size O nm d (defaultValue ty))) (st' := .ref h.size :: st) rfl (fun vm0 T L hG hsz X eT hZ hown hE hF => ?_) (fun h' q => H h.size h' (Nat.le_refl _) q.1 q.2.1 q.2.2.1 q.2.2.2)
  obtain ⟨T', h', X', e', E', A', D', -, s'⟩ := Jvm.RoadKit.newO X hG.1 hZ hown wl wi wz eT (g := mkF G.m pc Ls st) rfl (hb hG.2.1 hd) hc hl
  exact ⟨T', h', L, X', e', E'.1, ⟨Nat.le_trans hE.1 E'.1, fun a c q => E'.2 a c (hE.2 a c q)⟩, hF, ⟨hE.1, E', A', D'⟩, s'⟩
theorem Wlk.newP {aty : ArrayType} {z : Int32} {cap : Nat} {ty : FieldType} (hd : decode code pc = .ok (.newarray aty, 2)) (hty : newarray.typeOf aty = ty) (wl : (Cond.arrayClass ty).before a0 Z = true) (hn : ¬ z < 0) (hcap : z.toNatClampNeg ≤ cap) (hbig : cap * 8 ≤ 536870912) (hc : k + 1 ≤ R.cells) (hl : n + cap ≤ R.slots) (hp : pc + 2 = pc')
    (H : ∀ (a : Addr) (h' : Heap) (kc : ClassId), h.size ≤ a → Z.heap.size ≤ a → Ext h h' → Arv Z h' a kc ty z [] (defaultValue ty) → Wlk G R Z y code ret w J Q h' (k + 1) (n + cap) pc' Ls (.ref a :: st)) : Wlk G R Z y code ret w J Q h k n pc Ls (.int z :: st) := by
  subst hp hty
  refine Wlk.moves (P := fun h' => Z.heap.size ≤ h.size ∧ Ext h h' ∧ ∃ kc, Arv Z h' h.size kc (newarray.typeOf aty) z [] (defaultValue (newarray.typeOf aty))) (st' := .ref h.size :: st) rfl (fun vm0 T L hG hsz X eT hZ hown hE hF => ?_) (fun h' q => q.2.2.elim fun kc A => H h.size h' kc (Nat.le_refl _) q.1 q.2.1 A)
  obtain ⟨T', h', cA, X', e', E', A', s'⟩ := Jvm.RoadKit.newP X hG.1 hZ wl eT (g := mkF G.m pc Ls (.int z :: st)) rfl (hb hG.2.1 hd) rfl hn hcap hbig hc hl
  exact ⟨T', h', L, X', e', E'.1, ⟨Nat.le_trans hE.1 E'.1, fun a c q => E'.2 a c (hE.2 a c q)⟩, hF, ⟨hE.1, E', cA, Arv.new A' hn⟩, s'⟩
theorem Wlk.newR {index : Nat} {C : String} {z : Int32} {cap : Nat} (hd : decode code pc = .ok (.anewarray index, 3)) (wl : (Cond.classLink y.cls index C).before a0 Z = true) (w2 : (Cond.arrayOver (.object C)).before a0 Z = true) (hn : ¬ z < 0) (hcap : z.toNatClampNeg ≤ cap) (hbig : cap * 8 ≤ 536870912) (hc : k + 1 ≤ R.cells) (hl : n + cap ≤ R.slots) (hp : pc + 3 = pc')
    (H : ∀ (a : Addr) (h' : Heap) (kc : ClassId), h.size ≤ a → Z.heap.size ≤ a → Ext h h' → Ovr Z kc C → Arv Z h' a kc (.object C) z [] .null → Wlk G R Z y code ret w J Q h' (k + 1) (n + cap) pc' Ls (.ref a :: st)) : Wlk G R Z y code ret w J Q h k n pc Ls (.int z :: st) := by
  subst hp
  refine Wlk.moves (P := fun h' => Z.heap.size ≤ h.size ∧ Ext h h' ∧ ∃ kc, Ovr Z kc C ∧ Arv Z h' h.size kc (.object C) z [] .null) (st' := .ref h.size :: st) rfl (fun vm0 T L hG hsz X eT hZ hown hE hF => ?_) (fun h' q => q.2.2.elim fun kc A => H h.size h' kc (Nat.le_refl _) q.1 q.2.1 A.1 A.2)
  obtain ⟨T', h', cA, X', e', E', A', O', s'⟩ := Jvm.RoadKit.newR X hG.1 hZ hown wl w2 eT (g := mkF G.m pc Ls (.int z :: st)) rfl (hb hG.2.1 hd) rfl hn hcap hbig hc hl
  exact ⟨T', h', L, X', e', E'.1, ⟨Nat.le_trans hE.1 E'.1, fun a c q => E'.2 a c (hE.2 a c q)⟩, hF, ⟨hE.1, E', cA, O', Arv.new A' hn⟩, s'⟩
theorem ext_wr {a : Addr} {sl : Nat} {v : Value} {h' : Heap} (hE : Ext Z.heap h) (g : Z.heap.size ≤ a) (W : Wr h h' a sl v) : Ext Z.heap h' := (Old.wr (n0 := Z.heap.size) ⟨rfl, hE⟩ W g).2
theorem Wlk.putF {index sl : Nat} {R0 O nm d C : String} {a : Addr} {v old : Value} {ty : FieldType} (hd : decode code pc = .ok (.putfield index, 3)) (wl : (Cond.fieldLink y.cls index R0 nm d).before a0 Z = true) (via : Via Z R0 O nm d) (F : Fld Z h a O nm d old) (E : Exa Z h a C) (LY : (Cond.lays C O nm d).before a0 Z = true ∨ ((Cond.laysFinal C O nm d).before a0 Z = true ∧ y.cls = O ∧ y.name = "<init>")) (wi : (Cond.instantiable C sl).before a0 Z = true)
    (hty : parseFieldDescriptor d = some ty) (hn : narrow ty v = v) (hf : fits ty v = true) (g : Z.heap.size ≤ a) (hp : pc + 3 = pc') (H : ∀ h', Wr h h' a (Jvm.RoadKit.slotOf Z O nm d) v → Wlk G R Z y code ret w J Q h' k n pc' Ls st) : Wlk G R Z y code ret w J Q h k n pc Ls (v :: .ref a :: st) := by
  subst hp
  refine Wlk.moves (P := fun h' => Wr h h' a (Jvm.RoadKit.slotOf Z O nm d) v) rfl (fun vm0 T L hG hsz X eT hZ hown hE hF => ?_) H
  obtain ⟨T', h', X', e', W', s'⟩ := Jvm.RoadKit.putF X hG.1 hZ hown (host := "") (Or.inl wl) via eT F E (LY.imp id fun q => ⟨q.1, q.2.1, hG.2.2.2.2.trans q.2.2⟩) wi hty hn hf (g := mkF G.m pc Ls (v :: .ref a :: st)) rfl rfl (hb hG.2.1 hd)
  exact ⟨T', h', _, X', e', Nat.le_of_eq W'.size.symm, ext_wr hE g W', Fr.snoc X' hF g, W', s'⟩
theorem Wlk.castore {a : Addr} {kc : ClassId} {z j x : Int32} {vs : List Value} {d : Value} {i : Nat} (hd : decode code pc = .ok (.castore, 1)) (A : Arv Z h a kc .char z vs d) (hj : ¬ j < 0 ∧ j < z) (hi : j.toNatClampNeg = i) (hv : i < vs.length) (g : Z.heap.size ≤ a) (hp : pc + 1 = pc')
    (H : ∀ h', Wr h h' a i (.int (nar .char x)) → Arv Z h' a kc .char z (vs.set i (.int (nar .char x))) d → Wlk G R Z y code ret w J Q h' k n pc' Ls st) : Wlk G R Z y code ret w J Q h k n pc Ls (.int x :: .int j :: .ref a :: st) := by
  subst hp hi
  obtain ⟨cl, Ar, q1, S, N, HH, GG⟩ := A
  refine Wlk.moves (P := fun h' => Wr h h' a j.toNatClampNeg (.int (nar .char x))) rfl (fun vm0 T L hG hsz X eT hZ hown hE hF => ?_) (fun h' W => H h' W (Arv.set Ar q1 S N HH GG (fits_nar_char x) W j.toNatClampNeg rfl hv))
  obtain ⟨T', h', X', e', W', s'⟩ := Jvm.RoadKit.stC X hG.1 hZ eT Ar (j := j) (inb_of S hj) (g := mkF G.m pc Ls (.int x :: .int j :: .ref a :: st)) rfl rfl (hb hG.2.1 hd)
  exact ⟨T', h', _, X', e', Nat.le_of_eq W'.size.symm, ext_wr hE g W', Fr.snoc X' hF g, W', s'⟩
theorem Wlk.bastore {a : Addr} {kc : ClassId} {z j x : Int32} {vs : List Value} {d : Value} {i : Nat} (hd : decode code pc = .ok (.bastore, 1)) (A : Arv Z h a kc .byte z vs d) (hj : ¬ j < 0 ∧ j < z) (hi : j.toNatClampNeg = i) (hv : i < vs.length) (g : Z.heap.size ≤ a) (hp : pc + 1 = pc')
    (H : ∀ h', Wr h h' a i (.int (nar .byte x)) → Arv Z h' a kc .byte z (vs.set i (.int (nar .byte x))) d → Wlk G R Z y code ret w J Q h' k n pc' Ls st) : Wlk G R Z y code ret w J Q h k n pc Ls (.int x :: .int j :: .ref a :: st) := by
  subst hp hi
  obtain ⟨cl, Ar, q1, S, N, HH, GG⟩ := A
  refine Wlk.moves (P := fun h' => Wr h h' a j.toNatClampNeg (.int (nar .byte x))) rfl (fun vm0 T L hG hsz X eT hZ hown hE hF => ?_) (fun h' W => H h' W (Arv.set Ar q1 S N HH GG (fits_nar_byte x) W j.toNatClampNeg rfl hv))
  obtain ⟨T', h', X', e', W', s'⟩ := Jvm.RoadKit.stB X hG.1 hZ eT Ar (j := j) (inb_of S hj) (g := mkF G.m pc Ls (.int x :: .int j :: .ref a :: st)) rfl rfl (hb hG.2.1 hd)
  exact ⟨T', h', _, X', e', Nat.le_of_eq W'.size.symm, ext_wr hE g W', Fr.snoc X' hF g, W', s'⟩
theorem Wlk.iastore {a : Addr} {kc : ClassId} {z j x : Int32} {vs : List Value} {d : Value} {i : Nat} (hd : decode code pc = .ok (.iastore, 1)) (A : Arv Z h a kc .int z vs d) (hj : ¬ j < 0 ∧ j < z) (hi : j.toNatClampNeg = i) (hv : i < vs.length) (g : Z.heap.size ≤ a) (hp : pc + 1 = pc')
    (H : ∀ h', Wr h h' a i (.int x) → Arv Z h' a kc .int z (vs.set i (.int x)) d → Wlk G R Z y code ret w J Q h' k n pc' Ls st) : Wlk G R Z y code ret w J Q h k n pc Ls (.int x :: .int j :: .ref a :: st) := by
  subst hp hi
  obtain ⟨cl, Ar, q1, S, N, HH, GG⟩ := A
  refine Wlk.moves (P := fun h' => Wr h h' a j.toNatClampNeg (.int x)) rfl (fun vm0 T L hG hsz X eT hZ hown hE hF => ?_) (fun h' W => H h' W (Arv.set Ar q1 S N HH GG (rfl) W j.toNatClampNeg rfl hv))
  obtain ⟨T', h', X', e', W', s'⟩ := Jvm.RoadKit.stI X hG.1 hZ eT Ar (j := j) (inb_of S hj) (g := mkF G.m pc Ls (.int x :: .int j :: .ref a :: st)) rfl rfl (hb hG.2.1 hd)
  exact ⟨T', h', _, X', e', Nat.le_of_eq W'.size.symm, ext_wr hE g W', Fr.snoc X' hF g, W', s'⟩
theorem Wlk.aastore {a : Addr} {kc : ClassId} {z j : Int32} {v : Value} {vs : List Value} {d : Value} {i : Nat} {ty : FieldType} (hd : decode code pc = .ok (.aastore, 1)) (A : Arv Z h a kc ty z vs d) (hty : ty.isReference = true) (hfv : fits ty v = true) (F : Sto Z h a v) (hj : ¬ j < 0 ∧ j < z) (hi : j.toNatClampNeg = i) (hv : i < vs.length) (g : Z.heap.size ≤ a) (hp : pc + 1 = pc')
    (H : ∀ h', Wr h h' a i v → Arv Z h' a kc ty z (vs.set i v) d → Wlk G R Z y code ret w J Q h' k n pc' Ls st) : Wlk G R Z y code ret w J Q h k n pc Ls (v :: .int j :: .ref a :: st) := by
  subst hp hi
  obtain ⟨cl, Ar, q1, S, N, HH, GG⟩ := A
  refine Wlk.moves (P := fun h' => Wr h h' a j.toNatClampNeg v) rfl (fun vm0 T L hG hsz X eT hZ hown hE hF => ?_) (fun h' W => H h' W (Arv.set Ar q1 S N HH GG hfv W j.toNatClampNeg rfl hv))
  obtain ⟨T', h', X', e', W', s'⟩ := Jvm.RoadKit.stR X hG.1 hZ eT Ar (j := j) (inb_of S hj) hty F (g := mkF G.m pc Ls (v :: .int j :: .ref a :: st)) rfl rfl (hb hG.2.1 hd)
  exact ⟨T', h', _, X', e', Nat.le_of_eq W'.size.symm, ext_wr hE g W', Fr.snoc X' hF g, W', s'⟩
theorem Wlk.caload {a : Addr} {kc : ClassId} {z j : Int32} {vs : List Value} {d v : Value} (hd : decode code pc = .ok (.caload, 1)) (A : Arv Z h a kc .char z vs d) (hj : ¬ j < 0 ∧ j < z) (hv : vs.getD j.toNatClampNeg d = v) (hp : pc + 1 = pc') (H : Wlk G R Z y code ret w J Q h k n pc' Ls (v :: st)) : Wlk G R Z y code ret w J Q h k n pc Ls (.int j :: .ref a :: st) := by
  subst hp
  obtain ⟨cl, Ar, q1, S, N, HH, GG⟩ := A
  have hin := inb_of S hj
  exact Wlk.reads rfl (fun vm0 T L hG hsz X eT hZ hown hE => ⟨T, X, eT, fun t q => X.caload hG.1 (j := j) (v := v) (by rw [eT]; exact Ar.1) (State.isArrayOf_alike hZ.alike Ar.2.1) Ar.2.2 hin (Has.at HH hin hv) (g := mkF G.m pc Ls (.int j :: .ref a :: st)) rfl rfl (hb hG.2.1 hd) t q⟩) H
theorem Wlk.baload {a : Addr} {kc : ClassId} {z j : Int32} {vs : List Value} {d v : Value} (hd : decode code pc = .ok (.baload, 1)) (A : Arv Z h a kc .byte z vs d) (hj : ¬ j < 0 ∧ j < z) (hv : vs.getD j.toNatClampNeg d = v) (hp : pc + 1 = pc') (H : Wlk G R Z y code ret w J Q h k n pc' Ls (v :: st)) : Wlk G R Z y code ret w J Q h k n pc Ls (.int j :: .ref a :: st) := by
  subst hp
  obtain ⟨cl, Ar, q1, S, N, HH, GG⟩ := A
  have hin := inb_of S hj
  exact Wlk.reads rfl (fun vm0 T L hG hsz X eT hZ hown hE => ⟨T, X, eT, fun t q => X.baloadBytes hG.1 (j := j) (v := v) (by rw [eT]; exact Ar.1) (State.isArrayOf_alike hZ.alike Ar.2.1) Ar.2.2 hin (Has.at HH hin hv) (g := mkF G.m pc Ls (.int j :: .ref a :: st)) rfl rfl (hb hG.2.1 hd) t q⟩) H
theorem Wlk.iaload {a : Addr} {kc : ClassId} {z j : Int32} {vs : List Value} {d v : Value} (hd : decode code pc = .ok (.iaload, 1)) (A : Arv Z h a kc .int z vs d) (hj : ¬ j < 0 ∧ j < z) (hv : vs.getD j.toNatClampNeg d = v) (hp : pc + 1 = pc') (H : Wlk G R Z y code ret w J Q h k n pc' Ls (v :: st)) : Wlk G R Z y code ret w J Q h k n pc Ls (.int j :: .ref a :: st) := by
  subst hp
  obtain ⟨cl, Ar, q1, S, N, HH, GG⟩ := A
  have hin := inb_of S hj
  exact Wlk.reads rfl (fun vm0 T L hG hsz X eT hZ hown hE => ⟨T, X, eT, fun t q => X.iaload hG.1 (j := j) (v := v) (by rw [eT]; exact Ar.1) (State.isArrayOf_alike hZ.alike Ar.2.1) Ar.2.2 hin (Has.at HH hin hv) (g := mkF G.m pc Ls (.int j :: .ref a :: st)) rfl rfl (hb hG.2.1 hd) t q⟩) H
theorem Wlk.aaload {a : Addr} {kc : ClassId} {z j : Int32} {vs : List Value} {d v : Value} {ty : FieldType} (hd : decode code pc = .ok (.aaload, 1)) (A : Arv Z h a kc ty z vs d) (hty : ty.isReference = true) (hj : ¬ j < 0 ∧ j < z) (hv : vs.getD j.toNatClampNeg d = v) (hp : pc + 1 = pc') (H : Wlk G R Z y code ret w J Q h k n pc' Ls (v :: st)) : Wlk G R Z y code ret w J Q h k n pc Ls (.int j :: .ref a :: st) := by
  subst hp
  obtain ⟨cl, Ar, q1, S, N, HH, GG⟩ := A
  have hin := inb_of S hj
  exact Wlk.reads rfl (fun vm0 T L hG hsz X eT hZ hown hE => ⟨T, X, eT, fun t q => X.aaload hG.1 (j := j) (v := v) (by rw [eT]; exact Ar.1) (State.isArrayOf_alike hZ.alike Ar.2.1) hty Ar.2.2 hin (Has.at HH hin hv) (g := mkF G.m pc Ls (.int j :: .ref a :: st)) rfl rfl (hb hG.2.1 hd) t q⟩) H
theorem Wlk.arraylength {a : Addr} {kc : ClassId} {z : Int32} {vs : List Value} {d : Value} {ty : FieldType} (hd : decode code pc = .ok (.arraylength, 1)) (A : Arv Z h a kc ty z vs d) (hp : pc + 1 = pc') (H : Wlk G R Z y code ret w J Q h k n pc' Ls (.int z :: st)) : Wlk G R Z y code ret w J Q h k n pc Ls (.ref a :: st) := by
  subst hp
  obtain ⟨cl, Ar, q1, S, N, HH, GG⟩ := A
  exact Wlk.reads rfl (fun vm0 T L hG hsz X eT hZ hown hE => ⟨T, X, eT, fun t q => X.arraylength hG.1 (by rw [eT]; exact Ar.1) (State.isArrayOf_alike hZ.alike Ar.2.1) (g := mkF G.m pc Ls (.ref a :: st)) rfl rfl (hb hG.2.1 hd) t (by rw [len_of S N]; exact q)⟩) H
/-! ## the ends -/
theorem Wlk.leaves {v : Option Value} (hv : ret = none → v = none) (hstep : ∀ (vm0 : Vm) (T : State) (L : List Loc) (fs : List Frame), Cok G y code ret → Stand G.p G.l G.e R (G.s.setVm vm0) G.m G.args G.below G.meth G.c T L k n → (∀ (f : JFrame) (acts : List Action), f.method = G.m → f.locked = none → f.entered = [] → (doReturn G.e (T.setTop f) acts v).1 = T.setFrames fs) → Steps G.p.tables G.e G.below (T.setTop (mkF G.m pc Ls st)) (T.setFrames fs))
    (hc : k ≤ R.cells) (hs : n ≤ R.slots) (hq : Q v h J) : Wlk G R Z y code ret w J Q h k n pc Ls st := by
  intro hG hsz T L hP
  obtain ⟨vm0, k0, X, eT, hS, hk, hZ, hown, hw, hB, hE, hF⟩ := hP
  obtain ⟨fs, hr, hrun, hended, hend⟩ := (X.more hc hs).leaveW hS (by rw [eT]; exact hk) (v := v) (fun q => hv (hG.2.2.1.symm.trans q)) hG.2.2.2.1
  have eh : (T.setFrames fs).heap = h := eT
  refine ⟨_, _, hstep vm0 T L fs hG X hr, hrun, hended, v, L, J, rfl, ⟨by rw [eh]; exact hq, hF, by rw [eh]; exact hE, fun q => Books.warm (s := G.s) (hB q) X.warmed⟩, hend, fun q => ?_⟩
  have q' := hw q
  subst q'
  exact X.warmed
theorem Wlk.ireturnN {z : Int32} {t : FieldType} (hd : decode code pc = .ok (.ireturn, 1)) (hret : ret = some t) (ht : t = .boolean ∨ t = .byte ∨ t = .char ∨ t = .short) (hc : k ≤ R.cells) (hs : n ≤ R.slots) (hq : Q (some (.int (nar t z))) h J) : Wlk G R Z y code ret w J Q h k n pc Ls (.int z :: st) :=
  Wlk.leaves (fun q => by rw [hret] at q; cases q) (fun vm0 T L fs hG X hr => retN X hG.1 (hG.2.2.1.trans hret) ht (hb hG.2.1 hd) hr) hc hs hq
theorem Wlk.ireturnI {z : Int32} (hd : decode code pc = .ok (.ireturn, 1)) (hret : ret = some .int) (hc : k ≤ R.cells) (hs : n ≤ R.slots) (hq : Q (some (.int z)) h J) : Wlk G R Z y code ret w J Q h k n pc Ls (.int z :: st) :=
  Wlk.leaves (fun q => by rw [hret] at q; cases q) (fun vm0 T L fs hG X hr => retOut X hG.1 (hG.2.2.1.trans hret) rfl (Or.inl ⟨rfl, Or.inl rfl, z, rfl⟩) (hb hG.2.1 hd) hr) hc hs hq
theorem Wlk.areturn {v : Value} {t : FieldType} (hd : decode code pc = .ok (.areturn, 1)) (hret : ret = some t) (ht : t.isReference = true) (hv : v.isRef = true) (hn : narrow t v = v) (hc : k ≤ R.cells) (hs : n ≤ R.slots) (hq : Q (some v) h J) : Wlk G R Z y code ret w J Q h k n pc Ls (v :: st) :=
  Wlk.leaves (fun q => by rw [hret] at q; cases q) (fun vm0 T L fs hG X hr => retOut X hG.1 (hG.2.2.1.trans hret) hn (Or.inr (Or.inr (Or.inr (Or.inr ⟨rfl, ht, hv⟩)))) (hb hG.2.1 hd) hr) hc hs hq
theorem Wlk.return_ (hd : decode code pc = .ok (.return_, 1)) (hret : ret = none) (hc : k ≤ R.cells) (hs : n ≤ R.slots) (hq : Q none h J) : Wlk G R Z y code ret w J Q h k n pc Ls [] :=
  Wlk.leaves (fun _ => rfl) (fun vm0 T L fs hG X hr => X.returnOut hG.1 (hG.2.2.1.trans hret) (hb hG.2.1 hd) hr) hc hs hq
/-! ## calls -/
theorem Met.narrow {l : Launch} {y : MethodName} {zc : ByteArray} {zm : Nat} {zr : Option FieldType} {rm : Room} {as' : Array Value} {J0 : JJ} {Q' : Option Value → Heap → JJ → Prop} (M : Met l Z y zc zm zr false [] rm as' h J0 Q') (hE : Ext Z.heap h) :
    MetFree l y (head1 [Jvm.Cond.code y zc zm zr] rm) (fun a U => a = as' ∧ Z.Warmed39 U.vm ∧ U.heap = h) (fun _ _ _ _ _ => True) (fun _ U o U' => ∃ v L, o = .returned v ∧ ((∃ J', Q' v U'.heap J') ∧ Fr Z.heap.size L ∧ Ext Z.heap U'.heap ∧ h.size ≤ U'.heap.size) ∧ FrameEnd U o U' L rm.cells rm.slots) := by
  intro p e ha hc hk s m args below hf happ hP hK
  obtain ⟨n, o, h1, h2, h3, v, L, J', h4, ⟨h5, h6, h7, -⟩, h8, h9⟩ := M p e ha hc hk s m args below hf happ ⟨hP.1, hP.2.1, hP.2.2, hE, nofun⟩ hK
  exact ⟨n, o, h1, h2, h3, v, L, h4, ⟨⟨J', h5⟩, h6, h7, by have q := h8.2.2.2.2.1; rw [← hP.2.2]; exact q⟩, ⟨v, h4⟩, h9 rfl, h8.2.2.2⟩
theorem Met.wideBack {l : Launch} {p : Program} {e : Env} {s : State} {args : Array Value} {below : List Frame} {y : MethodName} {zc : ByteArray} {zm : Nat} {zr : Option FieldType} {rm : Room} {as' : Array Value} {J : JJ} {len W : Nat} {Q' : Option Value → Heap → JJ → Prop} (M : Met l Z y zc zm zr true [] rm as' h J Q') (hZ : Z.Warmed39 s.vm) (hE : Ext Z.heap h) (hB : Books Z s.vm J) (wc : (Cond.code y zc zm zr).before a0 Z = true) (wz : (Cond.initialized y.cls).before a0 Z = true) (hf : rm.frames + 1 ≤ R.frames) (hl : W + (zm + 11) + rm.locals ≤ R.locals) :
    BackS l R p e below s args y len W (fun A a => a = as' ∧ A.U.heap = h ∧ A.cells + rm.cells ≤ R.cells ∧ A.slots + rm.slots ≤ R.slots) (fun A _ v B => ∃ L, (∃ J', (Q' v B.U.heap J' ∧ Books Z B.U.vm J') ∧ Fr Z.heap.size L ∧ Ext Z.heap B.U.heap) ∧ B.locs = A.locs ++ L ∧ B.cells = A.cells + rm.cells ∧ B.slots = A.slots + rm.slots) :=
  BackS.of_freeW (bytes := zc) (maxL := zm) (ret := zr) (E := fun _ _ o t L k n => k = rm.cells ∧ n = rm.slots ∧ ∃ v J', o = .returned v ∧ (Q' v t.heap J' ∧ Books Z t.vm J') ∧ Fr Z.heap.size L ∧ Ext Z.heap t.heap) M hf hl
    (fun m meth c A a Y hp => have hU : Z.Warmed39 A.U.vm := wtrans hZ Y.warmed
      ⟨by show (Cond.and _ .tt).before a A.U = true; rw [Cond.before_and, mv hU wc]; rfl, mv hU wc, mv hU wz, hp.2.2.1, hp.2.2.2⟩)
    (fun m meth c A a g mk Y hp => ⟨hp.1, wtrans hZ Y.warmed, hp.2.1, hE, fun _ => Books.warm (s := s) (vm0 := s.vm) hB Y.warmed⟩) (fun _ _ _ _ _ _ _ _ _ => trivial)
    (fun _ _ _ _ ⟨v, L, J', h1, ⟨h2, h3, h4, h5⟩, h6⟩ => ⟨L, _, _, h6.1, rfl, rfl, v, J', h1, ⟨h2, h5 rfl⟩, h3, h4⟩)
    (fun m meth c A a g mk v t L k n Y hp _ _ ⟨e1, e2, v', J', e3, e4⟩ => by cases e3; subst e1 e2; exact ⟨L, ⟨J', e4⟩, rfl, rfl, rfl⟩)
theorem Wlk.callS {z : MethodName} {index : Nat} {zc : ByteArray} {zm : Nat} {rm : Room} {argsL : List Value} {stk : List Value} {W : Nat} {ps : List FieldType} {r : Option FieldType} {Q' : Option Value → Heap → JJ → Prop} {zr : Option FieldType} {J0 : JJ} (hd : decode code pc = .ok (.invokestatic index, 3)) (wl : (Cond.methodLink y.cls index z).before a0 Z = true) (ws : (Cond.static z).before a0 Z = true) (wz : (Cond.initialized z.cls).before a0 Z = true) (wc : (Cond.code z zc zm zr).before a0 Z = true) (hy : z.cls ≠ "java/lang/invoke/MethodHandle" ∧ z.cls ≠ "java/lang/invoke/VarHandle")
    (pd : parseMethodDescriptor z.desc = some ⟨ps, r⟩) (hlen : argsL.length = ps.length) (M : Met G.l Z z zc zm zr false [] rm argsL.toArray h J0 Q') (hf : rm.frames + 1 ≤ R.frames) (hW : (st.map fun v => v.category).sum = W) (hl : W + (zm + 11) + rm.locals ≤ R.locals) (hc : k + rm.cells ≤ R.cells) (hs : n + rm.slots ≤ R.slots) (hst : stk = argsL.reverse ++ st) (hp : pc + 3 = pc')
    (H : ∀ v h' J', Q' v h' J' → Wlk G R Z y code ret w J Q h' (k + rm.cells) (n + rm.slots) pc' Ls (v.toList ++ st)) : Wlk G R Z y code ret w J Q h k n pc Ls stk := by
  subst hp hst
  intro hG hsz T L hP
  obtain ⟨vm0, k0, X, eT, hS, hk, hZ, hown, hw, hB, hE, hF⟩ := hP
  have hZ' : Z.Warmed39 (G.s.setVm vm0).vm := hZ
  obtain ⟨v, vm₁, ⟨T', L', k', n'⟩, -, X', ⟨Lc, hQ, l1, y1, z1⟩, s'⟩ := Jvm.LawKit.callS X hG.1 (y := z) hown (mvT hZ' wl) (mvT hZ' ws) (mvT hZ' wz) (mvT hZ' wc) hy (backOf (W := W) (len := 3) (Q := fun v h' L => (∃ J', Q' v h' J') ∧ Fr Z.heap.size L ∧ Ext Z.heap h' ∧ h.size ≤ h'.size) (M.narrow hE) hZ' wc wz hf hl) (g := mkF G.m pc Ls (argsL.reverse ++ st)) rfl hsz (argsL := argsL) (rest := st) (lenOf pd hlen) rfl (by show 2 * 0 + _ ≤ _; omega) (hb hG.2.1 hd) (fun _ _ => ⟨rfl, eT, hc, hs⟩)
  dsimp only [Pt.U, Pt.locs, Pt.cells, Pt.slots] at X' l1 y1 z1 s' hQ
  subst l1 y1 z1
  obtain ⟨⟨J', hQ⟩, hFc, hEc, hgr⟩ := hQ
  obtain ⟨s₂, o, hs2, rr⟩ := H v T'.heap J' hQ hG hsz T' _ ⟨vm0, k0, X', rfl, hS, Nat.le_trans hk hgr, hZ, hown, hw, hB, hEc, Fr.app hF hFc⟩
  exact ⟨s₂, o, s' _ hs2, rr⟩
theorem Wlk.callSw {z : MethodName} {index : Nat} {zc : ByteArray} {zm : Nat} {rm : Room} {argsL : List Value} {stk : List Value} {W : Nat} {ps : List FieldType} {r : Option FieldType} {Q' : Option Value → Heap → JJ → Prop} {zr : Option FieldType} (hd : decode code pc = .ok (.invokestatic index, 3)) (wl : (Cond.methodLink y.cls index z).before a0 Z = true) (ws : (Cond.static z).before a0 Z = true) (wz : (Cond.initialized z.cls).before a0 Z = true) (wc : (Cond.code z zc zm zr).before a0 Z = true) (hy : z.cls ≠ "java/lang/invoke/MethodHandle" ∧ z.cls ≠ "java/lang/invoke/VarHandle")
    (pd : parseMethodDescriptor z.desc = some ⟨ps, r⟩) (hlen : argsL.length = ps.length) (M : Met G.l Z z zc zm zr true [] rm argsL.toArray h J Q') (hf : rm.frames + 1 ≤ R.frames) (hW : (st.map fun v => v.category).sum = W) (hl : W + (zm + 11) + rm.locals ≤ R.locals) (hc : k + rm.cells ≤ R.cells) (hs : n + rm.slots ≤ R.slots) (hst : stk = argsL.reverse ++ st) (hp : pc + 3 = pc')
    (H : ∀ v h' J', Q' v h' J' → Wlk G R Z y code ret true J' Q h' (k + rm.cells) (n + rm.slots) pc' Ls (v.toList ++ st)) : Wlk G R Z y code ret true J Q h k n pc Ls stk := by
  subst hp hst
  intro hG hsz T L hP
  obtain ⟨vm0, k0, X, eT, hS, hk, hZ, hown, hw, hB, hE, hF⟩ := hP
  have hZ' : Z.Warmed39 (G.s.setVm vm0).vm := hZ
  obtain ⟨v, vm₁, ⟨T', L', k', n'⟩, -, X', hS', hgr, ⟨Lc, hQ, l1, y1, z1⟩, s'⟩ := callSS X hG.1 (y := z) hown (mvT hZ' wl) (mvT hZ' ws) (mvT hZ' wz) (mvT hZ' wc) hy (Met.wideBack (W := W) (len := 3) M hZ' hE (hB rfl) wc wz hf hl) (g := mkF G.m pc Ls (argsL.reverse ++ st)) rfl hsz (argsL := argsL) (rest := st) (lenOf pd hlen) rfl (by show 2 * 0 + _ ≤ _; omega) (hb hG.2.1 hd) (fun _ _ => ⟨rfl, eT, hc, hs⟩)
  dsimp only [Pt.U, Pt.locs, Pt.cells, Pt.slots] at X' l1 y1 z1 s' hQ hS' hgr
  subst l1 y1 z1
  obtain ⟨J', ⟨hQ, hBc⟩, hFc, hEc⟩ := hQ
  obtain ⟨X2, hS2, hZ2, hown2⟩ := rebS (k0 := k0) (n1 := T.heap.size) hS (by rw [eT]; exact hk) X' hS' hgr hZ' hown
  obtain ⟨s₂, o, hs2, rr⟩ := H v T'.heap J' hQ hG hsz T' _ ⟨T'.vm, T'.heap.size, X2, rfl, hS2, Nat.le_refl _, hZ2, hown2, nofun, fun _ => hBc, hEc, Fr.app hF hFc⟩
  exact ⟨s₂, o, s'.trans hs2, rr⟩
theorem Wlk.callC {z : MethodName} {index : Nat} {zc : ByteArray} {zm : Nat} {rm : Room} {argsL : List Value} {stk : List Value} {W : Nat} {ps : List FieldType} {r : Option FieldType} {Q' : Option Value → Heap → JJ → Prop} {a : Addr} {J0 : JJ} (hd : decode code pc = .ok (.invokespecial index, 3)) (wl : (Cond.methodLink y.cls index z).before a0 Z = true) (wi : (Cond.instanceMethod z).before a0 Z = true) (wz : (Cond.initialized z.cls).before a0 Z = true) (wc : (Cond.code z zc zm none).before a0 Z = true) (hy : z.cls ≠ "java/lang/invoke/MethodHandle" ∧ z.cls ≠ "java/lang/invoke/VarHandle") (hin : z.name = "<init>")
    (pd : parseMethodDescriptor z.desc = some ⟨ps, r⟩) (hlen : argsL.length = ps.length) (M : Met G.l Z z zc zm none false [] rm (.ref a :: argsL).toArray h J0 Q') (hf : rm.frames + 1 ≤ R.frames) (hW : (st.map fun v => v.category).sum = W) (hl : W + (zm + 11) + rm.locals ≤ R.locals) (hc : k + rm.cells ≤ R.cells) (hs : n + rm.slots ≤ R.slots) (hst : stk = argsL.reverse ++ .ref a :: st) (hp : pc + 3 = pc')
    (H : ∀ v h' J', Q' v h' J' → Wlk G R Z y code ret w J Q h' (k + rm.cells) (n + rm.slots) pc' Ls (v.toList ++ st)) : Wlk G R Z y code ret w J Q h k n pc Ls stk := by
  subst hp hst
  intro hG hsz T L hP
  obtain ⟨vm0, k0, X, eT, hS, hk, hZ, hown, hw, hB, hE, hF⟩ := hP
  have hZ' : Z.Warmed39 (G.s.setVm vm0).vm := hZ
  obtain ⟨v, vm₁, ⟨T', L', k', n'⟩, -, X', ⟨Lc, hQ, l1, y1, z1⟩, s'⟩ := X.specialBack hG.1 (y := z) hin hown (mvT hZ' wl) (mvT hZ' wi) (mvT hZ' wc) hy (backOf (W := W) (len := 3) (Q := fun v h' L => (∃ J', Q' v h' J') ∧ Fr Z.heap.size L ∧ Ext Z.heap h' ∧ h.size ≤ h'.size) (M.narrow hE) hZ' wc wz hf hl) (g := mkF G.m pc Ls (argsL.reverse ++ .ref a :: st)) rfl hsz (Steps.refl _) (a := a) (argsL := argsL) (rest := st) (lenOf pd hlen) rfl (by show 2 * 0 + _ ≤ _; omega) (hb hG.2.1 hd) (fun _ _ => ⟨rfl, eT, hc, hs⟩)
  dsimp only [Pt.U, Pt.locs, Pt.cells, Pt.slots] at X' l1 y1 z1 s' hQ
  subst l1 y1 z1
  obtain ⟨⟨J', hQ⟩, hFc, hEc, hgr⟩ := hQ
  obtain ⟨s₂, o, hs2, rr⟩ := H v T'.heap J' hQ hG hsz T' _ ⟨vm0, k0, X', rfl, hS, Nat.le_trans hk hgr, hZ, hown, hw, hB, hEc, Fr.app hF hFc⟩
  exact ⟨s₂, o, s'.trans hs2, rr⟩
theorem Wlk.callCw {z : MethodName} {index : Nat} {zc : ByteArray} {zm : Nat} {rm : Room} {argsL : List Value} {stk : List Value} {W : Nat} {ps : List FieldType} {r : Option FieldType} {Q' : Option Value → Heap → JJ → Prop} {a : Addr} (hd : decode code pc = .ok (.invokespecial index, 3)) (wl : (Cond.methodLink y.cls index z).before a0 Z = true) (wi : (Cond.instanceMethod z).before a0 Z = true) (wz : (Cond.initialized z.cls).before a0 Z = true) (wc : (Cond.code z zc zm none).before a0 Z = true) (hy : z.cls ≠ "java/lang/invoke/MethodHandle" ∧ z.cls ≠ "java/lang/invoke/VarHandle") (hin : z.name = "<init>")
    (pd : parseMethodDescriptor z.desc = some ⟨ps, r⟩) (hlen : argsL.length = ps.length) (M : Met G.l Z z zc zm none true [] rm (.ref a :: argsL).toArray h J Q') (hf : rm.frames + 1 ≤ R.frames) (hW : (st.map fun v => v.category).sum = W) (hl : W + (zm + 11) + rm.locals ≤ R.locals) (hc : k + rm.cells ≤ R.cells) (hs : n + rm.slots ≤ R.slots) (hst : stk = argsL.reverse ++ .ref a :: st) (hp : pc + 3 = pc')
    (H : ∀ v h' J', Q' v h' J' → Wlk G R Z y code ret true J' Q h' (k + rm.cells) (n + rm.slots) pc' Ls (v.toList ++ st)) : Wlk G R Z y code ret true J Q h k n pc Ls stk := by
  subst hp hst
  intro hG hsz T L hP
  obtain ⟨vm0, k0, X, eT, hS, hk, hZ, hown, hw, hB, hE, hF⟩ := hP
  have hZ' : Z.Warmed39 (G.s.setVm vm0).vm := hZ
  obtain ⟨v, vm₁, ⟨T', L', k', n'⟩, -, X', hS', hgr, ⟨Lc, hQ, l1, y1, z1⟩, s'⟩ := X.specialBackS hG.1 (y := z) hin hown (mvT hZ' wl) (mvT hZ' wi) (mvT hZ' wc) hy (Met.wideBack (W := W) (len := 3) M hZ' hE (hB rfl) wc wz hf hl) (g := mkF G.m pc Ls (argsL.reverse ++ .ref a :: st)) rfl hsz (Steps.refl _) (a := a) (argsL := argsL) (rest := st) (lenOf pd hlen) rfl (by show 2 * 0 + _ ≤ _; omega) (hb hG.2.1 hd) (fun _ _ => ⟨rfl, eT, hc, hs⟩)
  dsimp only [Pt.U, Pt.locs, Pt.cells, Pt.slots] at X' l1 y1 z1 s' hQ hS' hgr
  subst l1 y1 z1
  obtain ⟨J', ⟨hQ, hBc⟩, hFc, hEc⟩ := hQ
  obtain ⟨X2, hS2, hZ2, hown2⟩ := rebS (k0 := k0) (n1 := T.heap.size) hS (by rw [eT]; exact hk) X' hS' hgr hZ' hown
  obtain ⟨s₂, o, hs2, rr⟩ := H v T'.heap J' hQ hG hsz T' _ ⟨T'.vm, T'.heap.size, X2, rfl, hS2, Nat.le_refl _, hZ2, hown2, nofun, fun _ => hBc, hEc, Fr.app hF hFc⟩
  exact ⟨s₂, o, s'.trans hs2, rr⟩
theorem Wlk.callV {z : MethodName} {index : Nat} {zc : ByteArray} {zm : Nat} {rm : Room} {argsL : List Value} {stk : List Value} {W : Nat} {ps : List FieldType} {r : Option FieldType} {Q' : Option Value → Heap → JJ → Prop} {zr : Option FieldType} {a : Addr} {x : MethodName} {C : String} {J0 : JJ} (hd : decode code pc = .ok (.invokevirtual index, 3)) (wl : (Cond.methodLink y.cls index x).before a0 Z = true) (wd : (Cond.declares x).before a0 Z = true) (wn : ∀ s : State, Z.Warmed39 s.vm → NotFace s x) (wsel : (Cond.selects C x z).before a0 Z = true) (wi : (Cond.instanceMethod z).before a0 Z = true) (E : Exa Z h a C) (wz : (Cond.initialized z.cls).before a0 Z = true) (wc : (Cond.code z zc zm zr).before a0 Z = true) (hy : x.cls ≠ "java/lang/invoke/MethodHandle" ∧ x.cls ≠ "java/lang/invoke/VarHandle")
    (pd : parseMethodDescriptor x.desc = some ⟨ps, r⟩) (hlen : argsL.length = ps.length) (M : Met G.l Z z zc zm zr false [] rm (.ref a :: argsL).toArray h J0 Q') (hf : rm.frames + 1 ≤ R.frames) (hW : (st.map fun v => v.category).sum = W) (hl : W + (zm + 11) + rm.locals ≤ R.locals) (hc : k + rm.cells ≤ R.cells) (hs : n + rm.slots ≤ R.slots) (hst : stk = argsL.reverse ++ .ref a :: st) (hp : pc + 3 = pc')
    (H : ∀ v h' J', Q' v h' J' → Wlk G R Z y code ret w J Q h' (k + rm.cells) (n + rm.slots) pc' Ls (v.toList ++ st)) : Wlk G R Z y code ret w J Q h k n pc Ls stk := by
  subst hp hst
  intro hG hsz T L hP
  obtain ⟨vm0, k0, X, eT, hS, hk, hZ, hown, hw, hB, hE, hF⟩ := hP
  have hZ' : Z.Warmed39 (G.s.setVm vm0).vm := hZ
  obtain ⟨cq, kq, qa, qb, qc⟩ := isOf hZ' eT E
  obtain ⟨v, vm₁, ⟨T', L', k', n'⟩, -, X', ⟨Lc, hQ, l1, y1, z1⟩, s'⟩ := X.virtualBack hG.1 (y := x) (z := z) hown (mvT hZ' wl) (mvT hZ' wd) (wn _ hZ') (mvT hZ' wsel) (mvT hZ' wi) hy (backOf (W := W) (len := 3) (Q := fun v h' L => (∃ J', Q' v h' J') ∧ Fr Z.heap.size L ∧ Ext Z.heap h' ∧ h.size ≤ h'.size) (M.narrow hE) hZ' wc wz hf hl) qa qc (g := mkF G.m pc Ls (argsL.reverse ++ .ref a :: st)) rfl hsz (Steps.refl _) (argsL := argsL) (rest := st) (lenOf pd hlen) rfl (by show 2 * 0 + _ ≤ _; omega) (hb hG.2.1 hd) (fun _ _ => ⟨rfl, eT, hc, hs⟩)
  dsimp only [Pt.U, Pt.locs, Pt.cells, Pt.slots] at X' l1 y1 z1 s' hQ
  subst l1 y1 z1
  obtain ⟨⟨J', hQ⟩, hFc, hEc, hgr⟩ := hQ
  obtain ⟨s₂, o, hs2, rr⟩ := H v T'.heap J' hQ hG hsz T' _ ⟨vm0, k0, X', rfl, hS, Nat.le_trans hk hgr, hZ, hown, hw, hB, hEc, Fr.app hF hFc⟩
  exact ⟨s₂, o, s'.trans hs2, rr⟩
theorem Wlk.callVw {z : MethodName} {index : Nat} {zc : ByteArray} {zm : Nat} {rm : Room} {argsL : List Value} {stk : List Value} {W : Nat} {ps : List FieldType} {r : Option FieldType} {Q' : Option Value → Heap → JJ → Prop} {zr : Option FieldType} {a : Addr} {x : MethodName} {C : String} (hd : decode code pc = .ok (.invokevirtual index, 3)) (wl : (Cond.methodLink y.cls index x).before a0 Z = true) (wd : (Cond.declares x).before a0 Z = true) (wn : ∀ s : State, Z.Warmed39 s.vm → NotFace s x) (wsel : (Cond.selects C x z).before a0 Z = true) (wi : (Cond.instanceMethod z).before a0 Z = true) (E : Exa Z h a C) (wz : (Cond.initialized z.cls).before a0 Z = true) (wc : (Cond.code z zc zm zr).before a0 Z = true) (hy : x.cls ≠ "java/lang/invoke/MethodHandle" ∧ x.cls ≠ "java/lang/invoke/VarHandle")
    (pd : parseMethodDescriptor x.desc = some ⟨ps, r⟩) (hlen : argsL.length = ps.length) (M : Met G.l Z z zc zm zr true [] rm (.ref a :: argsL).toArray h J Q') (hf : rm.frames + 1 ≤ R.frames) (hW : (st.map fun v => v.category).sum = W) (hl : W + (zm + 11) + rm.locals ≤ R.locals) (hc : k + rm.cells ≤ R.cells) (hs : n + rm.slots ≤ R.slots) (hst : stk = argsL.reverse ++ .ref a :: st) (hp : pc + 3 = pc')
    (H : ∀ v h' J', Q' v h' J' → Wlk G R Z y code ret true J' Q h' (k + rm.cells) (n + rm.slots) pc' Ls (v.toList ++ st)) : Wlk G R Z y code ret true J Q h k n pc Ls stk := by
  subst hp hst
  intro hG hsz T L hP
  obtain ⟨vm0, k0, X, eT, hS, hk, hZ, hown, hw, hB, hE, hF⟩ := hP
  have hZ' : Z.Warmed39 (G.s.setVm vm0).vm := hZ
  obtain ⟨cq, kq, qa, qb, qc⟩ := isOf hZ' eT E
  obtain ⟨v, vm₁, ⟨T', L', k', n'⟩, -, X', hS', hgr, ⟨Lc, hQ, l1, y1, z1⟩, s'⟩ := X.virtualBackS hG.1 (y := x) (z := z) hown (mvT hZ' wl) (mvT hZ' wd) (wn _ hZ') (mvT hZ' wsel) (mvT hZ' wi) hy (Met.wideBack (W := W) (len := 3) M hZ' hE (hB rfl) wc wz hf hl) qa qc (g := mkF G.m pc Ls (argsL.reverse ++ .ref a :: st)) rfl hsz (Steps.refl _) (argsL := argsL) (rest := st) (lenOf pd hlen) rfl (by show 2 * 0 + _ ≤ _; omega) (hb hG.2.1 hd) (fun _ _ => ⟨rfl, eT, hc, hs⟩)
  dsimp only [Pt.U, Pt.locs, Pt.cells, Pt.slots] at X' l1 y1 z1 s' hQ hS' hgr
  subst l1 y1 z1
  obtain ⟨J', ⟨hQ, hBc⟩, hFc, hEc⟩ := hQ
  obtain ⟨X2, hS2, hZ2, hown2⟩ := rebS (k0 := k0) (n1 := T.heap.size) hS (by rw [eT]; exact hk) X' hS' hgr hZ' hown
  obtain ⟨s₂, o, hs2, rr⟩ := H v T'.heap J' hQ hG hsz T' _ ⟨T'.vm, T'.heap.size, X2, rfl, hS2, Nat.le_refl _, hZ2, hown2, nofun, fun _ => hBc, hEc, Fr.app hF hFc⟩
  exact ⟨s₂, o, s'.trans hs2, rr⟩
theorem Wlk.callP {z : MethodName} {index : Nat} {zc : ByteArray} {zm : Nat} {rm : Room} {argsL : List Value} {stk : List Value} {W : Nat} {ps : List FieldType} {r : Option FieldType} {Q' : Option Value → Heap → JJ → Prop} {zr : Option FieldType} {a : Addr} {J0 : JJ} (hd : decode code pc = .ok (.invokevirtual index, 3)) (wl : (Cond.methodLink y.cls index z).before a0 Z = true) (wi : (Cond.instanceMethod z).before a0 Z = true) (wsel : (Cond.selects z.cls z z).before a0 Z = true) (wp : (Cond.privateMethod z).before a0 Z = true) {C : String} (E : Exa Z h a C) (wz : (Cond.initialized z.cls).before a0 Z = true) (wc : (Cond.code z zc zm zr).before a0 Z = true) (hy : z.cls ≠ "java/lang/invoke/MethodHandle" ∧ z.cls ≠ "java/lang/invoke/VarHandle")
    (pd : parseMethodDescriptor z.desc = some ⟨ps, r⟩) (hlen : argsL.length = ps.length) (M : Met G.l Z z zc zm zr false [] rm (.ref a :: argsL).toArray h J0 Q') (hf : rm.frames + 1 ≤ R.frames) (hW : (st.map fun v => v.category).sum = W) (hl : W + (zm + 11) + rm.locals ≤ R.locals) (hc : k + rm.cells ≤ R.cells) (hs : n + rm.slots ≤ R.slots) (hst : stk = argsL.reverse ++ .ref a :: st) (hp : pc + 3 = pc')
    (H : ∀ v h' J', Q' v h' J' → Wlk G R Z y code ret w J Q h' (k + rm.cells) (n + rm.slots) pc' Ls (v.toList ++ st)) : Wlk G R Z y code ret w J Q h k n pc Ls stk := by
  subst hp hst
  intro hG hsz T L hP
  obtain ⟨vm0, k0, X, eT, hS, hk, hZ, hown, hw, hB, hE, hF⟩ := hP
  have hZ' : Z.Warmed39 (G.s.setVm vm0).vm := hZ
  obtain ⟨cq, q1, q2⟩ := E.cell
  obtain ⟨v, vm₁, ⟨T', L', k', n'⟩, -, X', ⟨Lc, hQ, l1, y1, z1⟩, s'⟩ := X.privateBack hG.1 (y := z) hown (mvT hZ' wl) (mvT hZ' wi) (mvT hZ' wsel) (Cond.privateMethod_at (mvP hZ' wp (args := #[]))) (mvT hZ' wc) hy (backOf (W := W) (len := 3) (Q := fun v h' L => (∃ J', Q' v h' J') ∧ Fr Z.heap.size L ∧ Ext Z.heap h' ∧ h.size ≤ h'.size) (M.narrow hE) hZ' wc wz hf hl) (g := mkF G.m pc Ls (argsL.reverse ++ .ref a :: st)) rfl hsz (Steps.refl _) (a := a) (by rw [eT]; exact q1) q2 (argsL := argsL) (rest := st) (lenOf pd hlen) rfl (by show 2 * 0 + _ ≤ _; omega) (hb hG.2.1 hd) (fun _ _ => ⟨rfl, eT, hc, hs⟩)
  dsimp only [Pt.U, Pt.locs, Pt.cells, Pt.slots] at X' l1 y1 z1 s' hQ
  subst l1 y1 z1
  obtain ⟨⟨J', hQ⟩, hFc, hEc, hgr⟩ := hQ
  obtain ⟨s₂, o, hs2, rr⟩ := H v T'.heap J' hQ hG hsz T' _ ⟨vm0, k0, X', rfl, hS, Nat.le_trans hk hgr, hZ, hown, hw, hB, hEc, Fr.app hF hFc⟩
  exact ⟨s₂, o, s'.trans hs2, rr⟩
theorem Wlk.callPw {z : MethodName} {index : Nat} {zc : ByteArray} {zm : Nat} {rm : Room} {argsL : List Value} {stk : List Value} {W : Nat} {ps : List FieldType} {r : Option FieldType} {Q' : Option Value → Heap → JJ → Prop} {zr : Option FieldType} {a : Addr} (hd : decode code pc = .ok (.invokevirtual index, 3)) (wl : (Cond.methodLink y.cls index z).before a0 Z = true) (wi : (Cond.instanceMethod z).before a0 Z = true) (wsel : (Cond.selects z.cls z z).before a0 Z = true) (wp : (Cond.privateMethod z).before a0 Z = true) {C : String} (E : Exa Z h a C) (wz : (Cond.initialized z.cls).before a0 Z = true) (wc : (Cond.code z zc zm zr).before a0 Z = true) (hy : z.cls ≠ "java/lang/invoke/MethodHandle" ∧ z.cls ≠ "java/lang/invoke/VarHandle")
    (pd : parseMethodDescriptor z.desc = some ⟨ps, r⟩) (hlen : argsL.length = ps.length) (M : Met G.l Z z zc zm zr true [] rm (.ref a :: argsL).toArray h J Q') (hf : rm.frames + 1 ≤ R.frames) (hW : (st.map fun v => v.category).sum = W) (hl : W + (zm + 11) + rm.locals ≤ R.locals) (hc : k + rm.cells ≤ R.cells) (hs : n + rm.slots ≤ R.slots) (hst : stk = argsL.reverse ++ .ref a :: st) (hp : pc + 3 = pc')
    (H : ∀ v h' J', Q' v h' J' → Wlk G R Z y code ret true J' Q h' (k + rm.cells) (n + rm.slots) pc' Ls (v.toList ++ st)) : Wlk G R Z y code ret true J Q h k n pc Ls stk := by
  subst hp hst
  intro hG hsz T L hP
  obtain ⟨vm0, k0, X, eT, hS, hk, hZ, hown, hw, hB, hE, hF⟩ := hP
  have hZ' : Z.Warmed39 (G.s.setVm vm0).vm := hZ
  obtain ⟨cq, q1, q2⟩ := E.cell
  obtain ⟨v, vm₁, ⟨T', L', k', n'⟩, -, X', hS', hgr, ⟨Lc, hQ, l1, y1, z1⟩, s'⟩ := X.privateBackS hG.1 (y := z) hown (mvT hZ' wl) (mvT hZ' wi) (mvT hZ' wsel) (Cond.privateMethod_at (mvP hZ' wp (args := #[]))) (mvT hZ' wc) hy (Met.wideBack (W := W) (len := 3) M hZ' hE (hB rfl) wc wz hf hl) (g := mkF G.m pc Ls (argsL.reverse ++ .ref a :: st)) rfl hsz (Steps.refl _) (a := a) (by rw [eT]; exact q1) q2 (argsL := argsL) (rest := st) (lenOf pd hlen) rfl (by show 2 * 0 + _ ≤ _; omega) (hb hG.2.1 hd) (fun _ _ => ⟨rfl, eT, hc, hs⟩)
  dsimp only [Pt.U, Pt.locs, Pt.cells, Pt.slots] at X' l1 y1 z1 s' hQ hS' hgr
  subst l1 y1 z1
  obtain ⟨J', ⟨hQ, hBc⟩, hFc, hEc⟩ := hQ
  obtain ⟨X2, hS2, hZ2, hown2⟩ := rebS (k0 := k0) (n1 := T.heap.size) hS (by rw [eT]; exact hk) X' hS' hgr hZ' hown
  obtain ⟨s₂, o, hs2, rr⟩ := H v T'.heap J' hQ hG hsz T' _ ⟨T'.vm, T'.heap.size, X2, rfl, hS2, Nat.le_refl _, hZ2, hown2, nofun, fun _ => hBc, hEc, Fr.app hF hFc⟩
  exact ⟨s₂, o, s'.trans hs2, rr⟩
theorem Wlk.callI {z : MethodName} {index : Nat} {zc : ByteArray} {zm : Nat} {rm : Room} {argsL : List Value} {stk : List Value} {W : Nat} {ps : List FieldType} {r : Option FieldType} {Q' : Option Value → Heap → JJ → Prop} {zr : Option FieldType} {a : Addr} {x : MethodName} {C : String} {count : Nat} {J0 : JJ} (hd : decode code pc = .ok (.invokeinterface index count, 5)) (wl : (Cond.methodLink y.cls index x).before a0 Z = true) (wd : (Cond.declares x).before a0 Z = true) (wf : ∀ s : State, Z.Warmed39 s.vm → (Cond.interfaceMethod x.cls x.cls x.name x.desc).before G.args s = true) (wsel : (Cond.selects C x z).before a0 Z = true) (wi : (Cond.instanceMethod z).before a0 Z = true) (wpub : (Cond.publicMethod z).before a0 Z = true) (wun : (Cond.unhidden C x.name x.desc).before a0 Z = true) (wca : (Cond.castable C x.cls).before a0 Z = true) (E : Exa Z h a C) (wz : (Cond.initialized z.cls).before a0 Z = true) (wc : (Cond.code z zc zm zr).before a0 Z = true) (hy : x.cls ≠ "java/lang/invoke/MethodHandle" ∧ x.cls ≠ "java/lang/invoke/VarHandle")
    (pd : parseMethodDescriptor x.desc = some ⟨ps, r⟩) (hlen : argsL.length = ps.length) (M : Met G.l Z z zc zm zr false [] rm (.ref a :: argsL).toArray h J0 Q') (hf : rm.frames + 1 ≤ R.frames) (hW : (st.map fun v => v.category).sum = W) (hl : W + (zm + 11) + rm.locals ≤ R.locals) (hc : k + rm.cells ≤ R.cells) (hs : n + rm.slots ≤ R.slots) (hst : stk = argsL.reverse ++ .ref a :: st) (hp : pc + 5 = pc')
    (H : ∀ v h' J', Q' v h' J' → Wlk G R Z y code ret w J Q h' (k + rm.cells) (n + rm.slots) pc' Ls (v.toList ++ st)) : Wlk G R Z y code ret w J Q h k n pc Ls stk := by
  subst hp hst
  intro hG hsz T L hP
  obtain ⟨vm0, k0, X, eT, hS, hk, hZ, hown, hw, hB, hE, hF⟩ := hP
  have hZ' : Z.Warmed39 (G.s.setVm vm0).vm := hZ
  obtain ⟨cq, kq, qa, qb, qc⟩ := isOf hZ' eT E
  obtain ⟨v, vm₁, ⟨T', L', k', n'⟩, -, X', ⟨Lc, hQ, l1, y1, z1⟩, s'⟩ := X.interfaceBack hG.1 (xi := x) (y := z) hown (mvT hZ' wl) (mvT hZ' wd) (wf _ hZ') (mvT hZ' wsel) (mvT hZ' wi) (mvT hZ' wpub) (mvT hZ' wun) (mvT hZ' wca) hy (backOf (W := W) (len := 5) (Q := fun v h' L => (∃ J', Q' v h' J') ∧ Fr Z.heap.size L ∧ Ext Z.heap h' ∧ h.size ≤ h'.size) (M.narrow hE) hZ' wc wz hf hl) qa qb qc (g := mkF G.m pc Ls (argsL.reverse ++ .ref a :: st)) rfl hsz (Steps.refl _) (argsL := argsL) (rest := st) (lenOf pd hlen) rfl (by show 2 * 0 + _ ≤ _; omega) (hb hG.2.1 hd) (fun _ _ => ⟨rfl, eT, hc, hs⟩)
  dsimp only [Pt.U, Pt.locs, Pt.cells, Pt.slots] at X' l1 y1 z1 s' hQ
  subst l1 y1 z1
  obtain ⟨⟨J', hQ⟩, hFc, hEc, hgr⟩ := hQ
  obtain ⟨s₂, o, hs2, rr⟩ := H v T'.heap J' hQ hG hsz T' _ ⟨vm0, k0, X', rfl, hS, Nat.le_trans hk hgr, hZ, hown, hw, hB, hEc, Fr.app hF hFc⟩
  exact ⟨s₂, o, s'.trans hs2, rr⟩
theorem Wlk.callIw {z : MethodName} {index : Nat} {zc : ByteArray} {zm : Nat} {rm : Room} {argsL : List Value} {stk : List Value} {W : Nat} {ps : List FieldType} {r : Option FieldType} {Q' : Option Value → Heap → JJ → Prop} {zr : Option FieldType} {a : Addr} {x : MethodName} {C : String} {count : Nat} (hd : decode code pc = .ok (.invokeinterface index count, 5)) (wl : (Cond.methodLink y.cls index x).before a0 Z = true) (wd : (Cond.declares x).before a0 Z = true) (wf : ∀ s : State, Z.Warmed39 s.vm → (Cond.interfaceMethod x.cls x.cls x.name x.desc).before G.args s = true) (wsel : (Cond.selects C x z).before a0 Z = true) (wi : (Cond.instanceMethod z).before a0 Z = true) (wpub : (Cond.publicMethod z).before a0 Z = true) (wun : (Cond.unhidden C x.name x.desc).before a0 Z = true) (wca : (Cond.castable C x.cls).before a0 Z = true) (E : Exa Z h a C) (wz : (Cond.initialized z.cls).before a0 Z = true) (wc : (Cond.code z zc zm zr).before a0 Z = true) (hy : x.cls ≠ "java/lang/invoke/MethodHandle" ∧ x.cls ≠ "java/lang/invoke/VarHandle")
    (pd : parseMethodDescriptor x.desc = some ⟨ps, r⟩) (hlen : argsL.length = ps.length) (M : Met G.l Z z zc zm zr true [] rm (.ref a :: argsL).toArray h J Q') (hf : rm.frames + 1 ≤ R.frames) (hW : (st.map fun v => v.category).sum = W) (hl : W + (zm + 11) + rm.locals ≤ R.locals) (hc : k + rm.cells ≤ R.cells) (hs : n + rm.slots ≤ R.slots) (hst : stk = argsL.reverse ++ .ref a :: st) (hp : pc + 5 = pc')
    (H : ∀ v h' J', Q' v h' J' → Wlk G R Z y code ret true J' Q h' (k + rm.cells) (n + rm.slots) pc' Ls (v.toList ++ st)) : Wlk G R Z y code ret true J Q h k n pc Ls stk := by
  subst hp hst
  intro hG hsz T L hP
  obtain ⟨vm0, k0, X, eT, hS, hk, hZ, hown, hw, hB, hE, hF⟩ := hP
  have hZ' : Z.Warmed39 (G.s.setVm vm0).vm := hZ
  obtain ⟨cq, kq, qa, qb, qc⟩ := isOf hZ' eT E
  obtain ⟨v, vm₁, ⟨T', L', k', n'⟩, -, X', hS', hgr, ⟨Lc, hQ, l1, y1, z1⟩, s'⟩ := X.interfaceBackS hG.1 (xi := x) (y := z) hown (mvT hZ' wl) (mvT hZ' wd) (wf _ hZ') (mvT hZ' wsel) (mvT hZ' wi) (mvT hZ' wpub) (mvT hZ' wun) (mvT hZ' wca) hy (Met.wideBack (W := W) (len := 5) M hZ' hE (hB rfl) wc wz hf hl) qa qb qc (g := mkF G.m pc Ls (argsL.reverse ++ .ref a :: st)) rfl hsz (Steps.refl _) (argsL := argsL) (rest := st) (lenOf pd hlen) rfl (by show 2 * 0 + _ ≤ _; omega) (hb hG.2.1 hd) (fun _ _ => ⟨rfl, eT, hc, hs⟩)
  dsimp only [Pt.U, Pt.locs, Pt.cells, Pt.slots] at X' l1 y1 z1 s' hQ hS' hgr
  subst l1 y1 z1
  obtain ⟨J', ⟨hQ, hBc⟩, hFc, hEc⟩ := hQ
  obtain ⟨X2, hS2, hZ2, hown2⟩ := rebS (k0 := k0) (n1 := T.heap.size) hS (by rw [eT]; exact hk) X' hS' hgr hZ' hown
  obtain ⟨s₂, o, hs2, rr⟩ := H v T'.heap J' hQ hG hsz T' _ ⟨T'.vm, T'.heap.size, X2, rfl, hS2, Nat.le_refl _, hZ2, hown2, nofun, fun _ => hBc, hEc, Fr.app hF hFc⟩
  exact ⟨s₂, o, s'.trans hs2, rr⟩
/-- a constructor that a pasted law of the kit pays -/
theorem Wlk.callCB {z : MethodName} {index : Nat} {zc : ByteArray} {zm ck cs : Nat} {argsL : List Value} {stk : List Value} {W : Nat} {ps : List FieldType} {r : Option FieldType} {QQ : Option Value → Heap → List Loc → Prop} {a : Addr} (hd : decode code pc = .ok (.invokespecial index, 3)) (wl : (Cond.methodLink y.cls index z).before a0 Z = true) (wi : (Cond.instanceMethod z).before a0 Z = true) (wc : (Cond.code z zc zm none).before a0 Z = true) (hy : z.cls ≠ "java/lang/invoke/MethodHandle" ∧ z.cls ≠ "java/lang/invoke/VarHandle") (hin : z.name = "<init>")
    (pd : parseMethodDescriptor z.desc = some ⟨ps, r⟩) (hlen : argsL.length = ps.length) (hW : (st.map fun v => v.category).sum = W)
    (hK : ∀ s : State, Z.Warmed39 s.vm → Ext Z.heap h → Back G.l R G.p G.e G.below s G.args z 3 W (fun P v => v = (.ref a :: argsL).toArray ∧ P.U.heap = h ∧ P.cells + ck ≤ R.cells ∧ P.slots + cs ≤ R.slots) (fun P _ v B => ∃ L, QQ v B.U.heap L ∧ B.locs = P.locs ++ L ∧ B.cells = P.cells + ck ∧ B.slots = P.slots + cs))
    (hQ : ∀ v h' L, Ext Z.heap h → QQ v h' L → Fr Z.heap.size L ∧ Ext Z.heap h' ∧ h.size ≤ h'.size) (hc : k + ck ≤ R.cells) (hs : n + cs ≤ R.slots) (hst : stk = argsL.reverse ++ .ref a :: st) (hp : pc + 3 = pc')
    (H : ∀ v h' L, QQ v h' L → Wlk G R Z y code ret w J Q h' (k + ck) (n + cs) pc' Ls (v.toList ++ st)) : Wlk G R Z y code ret w J Q h k n pc Ls stk := by
  subst hp hst
  intro hG hsz T L hP
  obtain ⟨vm0, k0, X, eT, hS, hk, hZ, hown, hw, hB, hE, hF⟩ := hP
  have hZ' : Z.Warmed39 (G.s.setVm vm0).vm := hZ
  obtain ⟨v, vm₁, ⟨T', L', k', n'⟩, -, X', ⟨Lc, hQ1, l1, y1, z1⟩, s'⟩ := X.specialBack hG.1 (y := z) hin hown (mvT hZ' wl) (mvT hZ' wi) (mvT hZ' wc) hy (hK _ hZ' hE) (g := mkF G.m pc Ls (argsL.reverse ++ .ref a :: st)) rfl hsz (Steps.refl _) (a := a) (argsL := argsL) (rest := st) (lenOf pd hlen) rfl (by show 2 * 0 + _ ≤ _; omega) (hb hG.2.1 hd) (fun _ _ => ⟨rfl, eT, hc, hs⟩)
  dsimp only [Pt.U, Pt.locs, Pt.cells, Pt.slots] at X' l1 y1 z1 s' hQ1
  subst l1 y1 z1
  obtain ⟨hFc, hEc, hgr⟩ := hQ _ _ _ hE hQ1
  obtain ⟨s₂, o, hs2, rr⟩ := H v T'.heap Lc hQ1 hG hsz T' _ ⟨vm0, k0, X', rfl, hS, Nat.le_trans hk hgr, hZ, hown, hw, hB, hEc, Fr.app hF hFc⟩
  exact ⟨s₂, o, s'.trans hs2, rr⟩
theorem ext_keep {a : Addr} {h' : Heap} (hE : Ext Z.heap h) (g : Z.heap.size ≤ a) (K : Keep h h' [a]) : Ext Z.heap h' := (Old.keep (n0 := Z.heap.size) ⟨rfl, hE⟩ K (allS g all0)).2
/-! ## String constants (wide walks) -/
theorem Stand.rebase {p : Program} {l : Launch} {e : Env} {s : State} {m : MethodId} {args : Array Value} {below : List Frame} {meth : Method} {c : Code} {T : State} {locs : List Loc} {cells slots ck cs : Nat} (X : Stand p l e R s m args below meth c T locs cells slots) (hc : cells + ck ≤ R.cells) (hs : slots + cs ≤ R.slots) :
    Stand p l e ({ frames := R.frames, cells := ck, slots := cs, locals := R.locals } : Room) (({ s with heap := T.heap, slotsUsed := T.slotsUsed } : State).setVm T.vm) m args below meth c T [] 0 0 := by
  have Y := X.retabled X.warmed.wide
  have hroom : (({ s with heap := T.heap, slotsUsed := T.slotsUsed } : State).setVm T.vm).hasRoom e.platform ({ frames := R.frames, cells := ck, slots := cs, locals := R.locals } : Room) = true := by
    have h0 := Y.room
    have h1 := X.heapSize
    have h2 := X.used
    have h3 := X.book
    simp only [State.hasRoom, Bool.and_eq_true, decide_eq_true_eq] at h0 ⊢
    obtain ⟨⟨⟨⟨a1, a2⟩, a3⟩, a4⟩, a5⟩ := h0
    refine ⟨⟨⟨⟨a1, a2⟩, ?_⟩, ?_⟩, h3⟩
    · have a3' : s.heap.size + R.cells ≤ e.platform.maxCells := a3
      show T.heap.size + ck ≤ _
      omega
    · have a4' : s.slotsUsed + R.slots ≤ e.platform.maxSlots := a4
      show T.slotsUsed + cs ≤ _
      omega
  refine ⟨Y.admits, Y.cas, Y.clock, Y.frames, hroom, Y.hears, Y.method, Y.code, X.here, X.tail, State.WarmedH.refl T, X.limits, X.bytes, ?_⟩
  refine ⟨?_, Nat.le_refl _, Nat.le_refl _, ?_, ?_, fun a cl ha => ⟨cl, ha, rfl, rfl, fun _ _ => rfl⟩⟩
  · have q := Y.same.1
    exact q
  · show T.slotsUsed = T.slotsUsed + ((T.heap.toList.drop T.heap.size).map (·.slots.size)).sum
    rw [List.drop_eq_nil_of_le (Nat.le_of_eq Array.length_toList)]
    rfl
  · show ((T.heap.toList.drop T.heap.size).map (·.slots.size)).sum ≤ 0
    rw [List.drop_eq_nil_of_le (Nat.le_of_eq Array.length_toList)]
    exact Nat.le_refl _
theorem Stand.unbase {p : Program} {l : Launch} {e : Env} {s : State} {m : MethodId} {args : Array Value} {below : List Frame} {meth : Method} {c : Code} {T T' : State} {R' : Room} {locs l₂ : List Loc} {cells slots c₂ n₂ k1 : Nat} (X : Stand p l e R s m args below meth c T locs cells slots)
    (X' : Stand p l e R' (({ s with heap := T.heap, slotsUsed := T.slotsUsed } : State).setVm T'.vm) m args below meth c T' l₂ c₂ n₂) (hS : (({ s with heap := T.heap, slotsUsed := T.slotsUsed } : State).setVm T.vm).Since T'.vm k1) (hk : k1 ≤ T'.heap.size) :
    Stand p l e R (s.setVm T'.vm) m args below meth c T' (locs ++ l₂) (cells + c₂) (slots + n₂) ∧ s.Since T'.vm T'.heap.size ∧ T.Warmed39 T'.vm := by
  have hW : T.Warmed39 T'.vm := hS.1
  obtain ⟨q1, q2⟩ := X.movedW (T₂ := T') X'.here X'.tail (X'.limits.trans X.limits.symm) (X'.bytes.trans X.bytes.symm) hW (hS.2.mono hk) (by
    obtain ⟨b1, b2, b3, b4, b5, b6⟩ := X'.same
    refine ⟨?_, b2, b3, b4, b5, b6⟩
    have e1 := X.same.1
    have e2 : T.setFrames T'.frames = ({ s.setFrames T'.frames with heap := T.heap, slotsUsed := T.slotsUsed } : State).setVm T.vm := by
      have e3 : (T.setVm s.vm).setFrames T'.frames = ({ s.setFrames T.frames with heap := T.heap, slotsUsed := T.slotsUsed } : State).setFrames T'.frames := congrArg (fun u : State => u.setFrames T'.frames) e1
      have e4 : ({ s.setFrames T.frames with heap := T.heap, slotsUsed := T.slotsUsed } : State).setFrames T'.frames = ({ s.setFrames T'.frames with heap := T.heap, slotsUsed := T.slotsUsed } : State) := by
        have := State.setFrames_setFrames s T.frames T'.frames
        show ({ (s.setFrames T.frames).setFrames T'.frames with heap := T.heap, slotsUsed := T.slotsUsed } : State) = _
        rw [this]
      have e5 := congrArg (fun u : State => u.setVm T.vm) (e3.trans e4)
      exact e5
    have b1' : T'.setVm T'.vm = ({ ((({ s with heap := T.heap, slotsUsed := T.slotsUsed } : State).setVm T'.vm).setFrames T'.frames) with heap := T'.heap, slotsUsed := T'.slotsUsed } : State) := b1
    have b2' := congrArg (fun u : State => u.setVm T.vm) b1'
    show T'.setVm T.vm = ({ T.setFrames T'.frames with heap := T'.heap, slotsUsed := T'.slotsUsed } : State)
    rw [e2]
    exact b2')
  exact ⟨q1, q2, hW⟩
/-- a constant's first load: what is pushed is a Latin-1 String with the text's bytes -/
theorem Wlk.ldcNew {index nn : Nat} {text : String} {Ts : List String} {Lt : List (String × Nat × Addr)} {vs : List Value} {z : Int32} (hd : decode code pc = .ok (.ldc index, 2)) (wl : (Cond.stringLink y.cls index text).before a0 Z = true) (wS : ∀ a ∈ Bundle.stringAtoms, a.before a0 Z = true) (hnot : text ∉ Ts) (hh : Jvm.Lit.constHeld Z y.cls index) (hcw : Jvm.Lit.compactW.before a0 Z = true)
    (ht : (∀ c ∈ text.toList, c.toNat < 256) ∧ text.toList.map (fun c => Value.int (Jvm.Lit.byteI c.toNat.toUInt16)) = vs) (hz : ¬ z < 0) (hl : z.toNatClampNeg = vs.length) (hn : 4 * text.toList.length ≤ nn) (hbig : nn ≤ 536870912) (hc : k + 2 ≤ R.cells) (hs : n + (nn + 4) ≤ R.slots) (hp : pc + 2 = pc')
    (H : ∀ (a b : Addr) (kb : ClassId) (h' : Heap), Ext h h' → Exa Z h' a "java/lang/String" → Fld Z h' a "java/lang/String" "coder" "B" (.int 0) → Fld Z h' a "java/lang/String" "value" "[B" (.ref b) → Arv Z h' b kb .byte z vs (.int 0) → Wlk G R Z y code ret true (true, text :: Ts, (y.cls, index, a) :: Lt) Q h' (k + 2) (n + (nn + 4)) pc' Ls (.ref a :: st)) :
    Wlk G R Z y code ret true (true, Ts, Lt) Q h k n pc Ls st := by
  subst hp
  intro hG hsz T L hP
  obtain ⟨vm0, k0, X, eT, hS, hk, hZ, hown, hw, hB, hE, hF⟩ := hP
  have hWT : (G.s.setVm vm0).WarmedH T.vm := X.warmed
  have hBT : Books Z T.vm (true, Ts, Lt) := Books.warm (s := G.s) (hB rfl) hWT
  have hZT : Z.Warmed39 T.vm := State.Warmed39.trans (t := G.s.setVm vm0) hZ hWT.wide
  have hownT : T.vm.findClass y.cls = some G.m.cls := by rw [hWT.alike.findClass]; exact hown
  have Y := Stand.rebase (ck := 2) (cs := nn + 4) X hc hs
  obtain ⟨a, T', h', k1, b, kb, X', e', E', hS', hk', hZ', hown', A1, A2, A3, A4, -, -, I', Lit', s'⟩ := ldcSVL (s := ({ G.s.setVm vm0 with heap := T.heap, slotsUsed := T.slotsUsed } : State).setVm T.vm) (vm0 := T.vm) (g := mkF G.m pc Ls st) Y hG.1 hZT hownT wl wS eT (k0 := 0) ((State.WarmedH.refl (({ G.s.setVm vm0 with heap := T.heap, slotsUsed := T.slotsUsed } : State).setVm T.vm)).since 0) (Nat.zero_le _) (Fr.nil _) (fun b cl q => by show T.heap[b]? = some cl; rw [eT]; exact hE.2 b cl q) (hBT rfl).1 hnot hh hcw ht hz hl rfl (hb hG.2.1 hd) hn hbig (by show 0 + 2 ≤ 2; omega) (by show 0 + (nn + 4) ≤ nn + 4; omega)
  obtain ⟨X2, hS2, hWT'⟩ := Stand.unbase X X' hS' (by rw [e']; exact hk')
  have eL : L ++ [] = L := List.append_nil L
  rw [eL] at X2
  have X3 := X2.mono (cells' := k + 2) (slots' := n + (nn + 4)) (by omega) (by omega)
  have hEh : Ext Z.heap h' := ⟨Nat.le_trans hE.1 E'.1, fun x cl q => E'.2 x cl (hE.2 x cl q)⟩
  have hB' : Books Z T'.vm (true, text :: Ts, (y.cls, index, a) :: Lt) := fun _ => ⟨I', fun x hx => by
    rcases List.mem_cons.mp hx with rfl | hx
    · exact Lit'
    · exact Lit.stays (s := T) ((hBT rfl).2 x hx) hWT'⟩
  obtain ⟨s₂, o, hs2, rr⟩ := H a b kb h' E' A1 A2 A3 A4 hG hsz T' L ⟨T'.vm, T'.heap.size, X3, e', hS.trans hS2 (by rw [e']; exact Nat.le_trans hk E'.1), by rw [e']; exact Nat.le_refl _, hZ', hown', nofun, fun _ => hB', hEh, hF⟩
  exact ⟨s₂, o, s' _ hs2, rr⟩
/-- a load of an entry that is known to be resolved -/
theorem Wlk.ldcOld {index : Nat} {text : String} {Ts : List String} {Lt : List (String × Nat × Addr)} {a : Addr} (hd : decode code pc = .ok (.ldc index, 2)) (wl : (Cond.stringLink y.cls index text).before a0 Z = true) (hin : (y.cls, index, a) ∈ Lt) (hp : pc + 2 = pc')
    (H : Wlk G R Z y code ret true (true, Ts, Lt) Q h k n pc' Ls (.ref a :: st)) : Wlk G R Z y code ret true (true, Ts, Lt) Q h k n pc Ls st := by
  subst hp
  intro hG hsz T L hP
  obtain ⟨s₂, o, hs, r⟩ := H hG hsz T L hP
  obtain ⟨vm0, k0, X, eT, hS, hk, hZ, hown, hw, hB, hE, hF⟩ := hP
  exact ⟨s₂, o, ldcAgain X hG.1 hZ hown wl ((hB rfl rfl).2 _ hin) (g := mkF G.m pc Ls st) rfl (hb hG.2.1 hd) _ hs, r⟩
/-- a load of which nothing is known but that it pushes a reference -/
theorem Wlk.ldcAny {index nn : Nat} {text : String} {J' : JJ} (hJ : J'.1 = false) (hd : decode code pc = .ok (.ldc index, 2)) (wl : (Cond.stringLink y.cls index text).before a0 Z = true) (wS : ∀ a ∈ Bundle.stringAtoms, a.before a0 Z = true) (hn : 4 * text.toList.length ≤ nn) (hbig : nn ≤ 536870912) (hc : k + 2 ≤ R.cells) (hs : n + (nn + 4) ≤ R.slots) (hp : pc + 2 = pc')
    (H : ∀ (a : Addr) (h' : Heap), Ext h h' → Wlk G R Z y code ret true J' Q h' (k + 2) (n + (nn + 4)) pc' Ls (.ref a :: st)) : Wlk G R Z y code ret true J Q h k n pc Ls st := by
  subst hp
  intro hG hsz T L hP
  obtain ⟨vm0, k0, X, eT, hS, hk, hZ, hown, hw, hB, hE, hF⟩ := hP
  obtain ⟨a, T', h', k1, X', e', E', hS', hk', hZ', hown', s'⟩ := ldcS X hG.1 hZ hown wl wS eT hS hk (g := mkF G.m pc Ls st) rfl (hb hG.2.1 hd) hn hbig hc hs
  have hEh : Ext Z.heap h' := ⟨Nat.le_trans hE.1 E'.1, fun x cl q => E'.2 x cl (hE.2 x cl q)⟩
  obtain ⟨s₂, o, hs2, rr⟩ := H a h' E' hG hsz T' L ⟨T'.vm, k1, X', e', hS', hk', hZ', hown', nofun, fun _ q => (by rw [hJ] at q; cases q), hEh, hF⟩
  exact ⟨s₂, o, s' _ hs2, rr⟩
theorem Wlk.cloneV {index W cap : Nat} {ad : String} {a : Addr} {kc : ClassId} {ty : FieldType} {z : Int32} {vs : List Value} {d : Value} (hd : decode code pc = .ok (.invokevirtual index, 3)) (w1 : (Cond.methodLink y.cls index ⟨ad, "clone", "()Ljava/lang/Object;"⟩).before a0 Z = true) (w2 : (Cond.sameMethod ad "java/lang/Object" "clone" "()Ljava/lang/Object;").before a0 Z = true) (w3 : (Cond.native ⟨"java/lang/Object", "clone", "()Ljava/lang/Object;"⟩).before a0 Z = true)
    (w4 : (Cond.instanceMethod ⟨"java/lang/Object", "clone", "()Ljava/lang/Object;"⟩).before a0 Z = true) (w5 : (Cond.selects ad ⟨ad, "clone", "()Ljava/lang/Object;"⟩ ⟨"java/lang/Object", "clone", "()Ljava/lang/Object;"⟩).before a0 Z = true) (w6 : (Cond.castable ad "java/lang/Cloneable").before a0 Z = true)
    (A : Arv Z h a kc ty z vs d) (E : Exa Z h a ad) (F : ∀ cl : Cell, h[a]? = some cl → FitC Z cl) (hf : 1 ≤ R.frames) (hW : (st.map fun v => v.category).sum = W) (hl : W + 14 ≤ R.locals) (hcap : z.toNatClampNeg ≤ cap) (hc : k + 1 ≤ R.cells) (hs : n + cap ≤ R.slots) (hp : pc + 3 = pc')
    (H : ∀ (b : Addr) (h' : Heap), h.size ≤ b → Z.heap.size ≤ b → Ext h h' → Arv Z h' b kc ty z vs d → Exa Z h' b ad → Wlk G R Z y code ret w J Q h' (k + 1) (n + cap) pc' Ls (.ref b :: st)) : Wlk G R Z y code ret w J Q h k n pc Ls (.ref a :: st) := by
  subst hp
  obtain ⟨cl, Ar, q1, S, N, HH, GG⟩ := A
  refine Wlk.moves (P := fun h' => Z.heap.size ≤ h.size ∧ Ext h h' ∧ Arv Z h' h.size kc ty z vs d ∧ Exa Z h' h.size ad) (st' := .ref h.size :: st) rfl (fun vm0 T L hG hsz X eT hZ hown hE hF => ?_) (fun h' q => H h.size h' (Nat.le_refl _) q.1 q.2.1 q.2.2.1 q.2.2.2)
  obtain ⟨T', h', X', e', E', A', D', s'⟩ := Jvm.RoadKit.cloneA X hG.1 hZ hown w1 w2 w3 w4 w5 w6 eT Ar E (F cl Ar.1) (g := mkF G.m pc Ls (.ref a :: st)) rfl hsz rfl (hb hG.2.1 hd) hf (W := W) (cap := cap) (by show 2 * 0 + _ ≤ _; omega) hl (by rw [S]; exact hcap) hc hs
  exact ⟨T', h', L, X', e', E'.1, ⟨Nat.le_trans hE.1 E'.1, fun a c q => E'.2 a c (hE.2 a c q)⟩, hF, ⟨hE.1, E', ⟨cloneOf cl, A', q1, S, N, HH, GG⟩, D'⟩, s'⟩
end Walk
end Jvm.Own
namespace Jvm.Own
open Sem ClassFile Op Lib Jvm.Stand Jvm.Free Jvm.LawKit Jvm.RoadKit
/-! ## numbers -/
theorem i32_toInt {i : Nat} (h : i < 2147483648) : (Int32.ofNat i).toInt = i := Int32.toInt_ofNat_small (by omega)
theorem z32 : (0 : Int32).toInt = 0 := by decide
theorem i32_nn {i : Nat} (h : i < 2147483648) : ¬ Int32.ofNat i < 0 := by
  rw [Int32.lt_iff_toInt_lt, i32_toInt h, z32]; omega
theorem i32_cl {i : Nat} (h : i < 2147483648) : (Int32.ofNat i).toNatClampNeg = i := by
  show (Int32.ofNat i).toInt.toNat = i
  rw [i32_toInt h]; rfl
theorem i32_lt {i j : Nat} (hi : i < 2147483648) (hj : j < 2147483648) : Int32.ofNat i < Int32.ofNat j ↔ i < j := by
  rw [Int32.lt_iff_toInt_lt, i32_toInt hi, i32_toInt hj]; omega
theorem i32_eq {i j : Nat} (hi : i < 2147483648) (hj : j < 2147483648) : Int32.ofNat i = Int32.ofNat j ↔ i = j := by
  rw [← Int32.toInt_inj, i32_toInt hi, i32_toInt hj]; omega
theorem i32_add (i j : Nat) : Int32.ofNat i + Int32.ofNat j = Int32.ofNat (i + j) := (Int32.ofNat_add i j).symm
theorem i32_succ (i : Nat) : Int32.ofNat i + 1 = Int32.ofNat (i + 1) := i32_add i 1
/-! ## what a String's bytes are -/
/-- a char's byte in a Latin-1 String -/
def bL (c : Int32) : Int32 := c.toInt8.toInt32
/-- .. its second byte in a UTF-16 one -/
def bH (c : Int32) : Int32 := (c >>> 8).toInt8.toInt32
theorem nar_bL (c : Int32) : nar .byte (bL c) = bL c := by simp [nar, bL]
theorem nar_bH (c : Int32) : nar .byte (bH c) = bH c := by simp [nar, bH]
def vL (cs : List Int32) : List Value := cs.map fun c => .int (bL c)
def vU : List Int32 → List Value
  | [] => []
  | c :: cs => .int (bL c) :: .int (bH c) :: vU cs
def vC (cs : List Int32) : List Value := cs.map Value.int
/-- the chars ahead of the first that is above 255 -/
def lat (cs : List Int32) : List Int32 := cs.takeWhile fun c => decide (¬ (255 : Int32) < c)
theorem lat_app {pre rest : List Int32} (h : ∀ c ∈ pre, ¬ (255 : Int32) < c) : lat (pre ++ rest) = pre ++ lat rest := by
  unfold lat
  rw [List.takeWhile_append_of_pos (fun c hc => decide_eq_true (h c hc))]
theorem lat_all {cs : List Int32} (h : ∀ c ∈ cs, ¬ (255 : Int32) < c) : lat cs = cs := by
  have := lat_app (rest := []) h
  simpa [lat] using this
theorem lat_stop {c : Int32} {rest : List Int32} (h : (255 : Int32) < c) : lat (c :: rest) = [] := by simp [lat, h]
theorem lat_mem : ∀ {cs : List Int32}, lat cs = cs → ∀ c ∈ cs, ¬ (255 : Int32) < c
  | [], _, c, hc => nomatch hc
  | x :: cs, h, c, hc => by
    by_cases hx : (255 : Int32) < x
    · rw [lat_stop hx] at h
      cases h
    · have h2 : lat (x :: cs) = x :: lat cs := by unfold lat; rw [List.takeWhile_cons, if_pos (decide_eq_true hx)]
      rw [h2] at h
      injection h with _ h3
      rcases List.mem_cons.mp hc with rfl | hc
      · exact hx
      · exact lat_mem h3 c hc
end Jvm.Own
namespace Jvm.Own
open Sem ClassFile Op Lib Jvm.Stand Jvm.Free Jvm.LawKit Jvm.RoadKit
theorem set_vL (pre : List Int32) (c : Int32) : (vL pre ++ List.replicate 1 (Value.int 0)).set pre.length (Value.int (nar .byte c.toInt8.toInt32)) = vL (pre ++ [c]) := by
  have e : (vL pre).length = pre.length := by simp [vL]
  rw [← e, List.set_append_right _ _ (Nat.le_refl _)]
  simp [vL, nar, bL]
end Jvm.Own
namespace Jvm.Own
open Sem ClassFile Op Lib Jvm.Stand Jvm.Free Jvm.LawKit Jvm.RoadKit
/-- a Latin-1 String at s, its bytes at t, that spells cs -/
def StrL (Z : State) (h : Heap) (s t : Addr) (cs : List Int32) : Prop :=
  Exa Z h s "java/lang/String" ∧ Fld Z h s "java/lang/String" "value" "[B" (.ref t) ∧ Fld Z h s "java/lang/String" "coder" "B" (.int 0) ∧ ∃ kb, Arv Z h t kb .byte (Int32.ofNat cs.length) (vL cs) (.int 0)
theorem StrL.ext {Z : State} {h h' : Heap} {s t : Addr} {cs : List Int32} (S : StrL Z h s t cs) (E : Ext h h') : StrL Z h' s t cs := by
  obtain ⟨a, b, c, kb, d⟩ := S
  exact ⟨a.ext E, b.ext E, c.ext E, kb, d.ext E⟩
theorem StrL.keep {Z : State} {h h' : Heap} {s t : Addr} {cs : List Int32} {ws : List Addr} (S : StrL Z h s t cs) (K : Keep h h' ws) (q1 : s ∉ ws) (q2 : t ∉ ws) : StrL Z h' s t cs := by
  obtain ⟨a, b, c, kb, d⟩ := S
  exact ⟨a.keep K, b.keep K q1, c.keep K q1, kb, d.keep K q2⟩
theorem StrL.wr {Z : State} {h h' : Heap} {s t a : Addr} {cs : List Int32} {sl : Nat} {v : Value} (S : StrL Z h s t cs) (W : Wr h h' a sl v) (q1 : s ≠ a) (q2 : t ≠ a) : StrL Z h' s t cs := by
  obtain ⟨x, b, c, kb, d⟩ := S
  exact ⟨x.wr W, b.other W (Or.inl q1), c.other W (Or.inl q1), kb, d.other W q2⟩
theorem StrL.lt {Z : State} {h : Heap} {s t : Addr} {cs : List Int32} (S : StrL Z h s t cs) : s < h.size := S.1.lt
theorem StrL.ltT {Z : State} {h : Heap} {s t : Addr} {cs : List Int32} (S : StrL Z h s t cs) : t < h.size := by obtain ⟨-, -, -, kb, d⟩ := S; exact d.lt
end Jvm.Own
namespace Jvm.Own
open Sem ClassFile Op Lib Jvm.Stand Jvm.Free Jvm.LawKit Jvm.RoadKit
theorem sto_arv {Z : State} {h : Heap} {a x : Addr} {k : ClassId} {ty : FieldType} {z : Int32} {vs : List Value} {d : Value} {C : String} (A : Arv Z h a k ty z vs d) (O : Ovr Z k C) (I : Ins Z h x C true) : Sto Z h a (.ref x) := by
  obtain ⟨c, Ar, q, -⟩ := A
  exact Sto.ofV Ar q O I
end Jvm.Own
namespace Jvm.Own
open Sem ClassFile Op Lib Jvm.Stand Jvm.Free Jvm.LawKit Jvm.RoadKit
/-! ## UTF-16 -/
theorem nar_char {c : Int32} (h0 : ¬ c < 0) (h1 : ¬ (65535 : Int32) < c) : nar .char c = c := by
  have e := c_i2c c
  have h7 : (65535 : Int32).toInt = 65535 := by decide
  rw [Int32.lt_iff_toInt_lt, z32] at h0
  rw [Int32.lt_iff_toInt_lt, h7] at h1
  apply Int32.toInt_inj.mp
  show c.toUInt32.toUInt16.toUInt32.toInt32.toInt = c.toInt
  omega
theorem vU_len (cs : List Int32) : (vU cs).length = 2 * cs.length := by
  induction cs with
  | nil => rfl
  | cons c cs ih => simp only [vU, List.length_cons, ih]; omega
theorem vU_app (pre : List Int32) (c : Int32) : vU (pre ++ [c]) = vU pre ++ [.int (bL c), .int (bH c)] := by
  induction pre with
  | nil => rfl
  | cons x pre ih => simp only [List.cons_append, vU, ih]
theorem vU_set (pre : List Int32) (c : Int32) : ((vU pre ++ List.replicate 2 (Value.int 0)).set (2 * pre.length) (.int (bL c))).set (2 * pre.length + 1) (.int (bH c)) = vU (pre ++ [c]) := by
  rw [vU_app]
  have e : (vU pre).length = 2 * pre.length := vU_len pre
  rw [← e, List.set_append_right _ _ (Nat.le_refl _), List.set_append_right _ _ (Nat.le_succ _)]
  simp
theorem vU_get : ∀ {cs : List Int32} {i : Nat} {c : Int32}, cs[i]? = some c → (vU cs)[2 * i]? = some (.int (bL c)) ∧ (vU cs)[2 * i + 1]? = some (.int (bH c))
  | [], i, c, h => by simp at h
  | x :: cs, 0, c, h => by
    simp only [List.getElem?_cons_zero, Option.some.injEq] at h
    subst h
    exact ⟨rfl, rfl⟩
  | x :: cs, i + 1, c, h => by
    have h' : cs[i]? = some c := by simpa using h
    have q := vU_get h'
    have e1 : 2 * (i + 1) = (2 * i) + 1 + 1 := by omega
    rw [e1]
    simp only [vU, List.getElem?_cons_succ]
    exact q
theorem i32_shl1 (i : Nat) (h : i < 1073741823) : Int32.ofNat i <<< ((1 : Int32) &&& 31) = Int32.ofNat (2 * i) := by
  apply Int32.toInt_inj.mp
  have e := c_ishl (Int32.ofNat i) 1 1 (by decide)
  have r := rng32 (Int32.ofNat i <<< ((1 : Int32) &&& 31))
  rw [i32_toInt (by omega)] at e
  rw [i32_toInt (by omega)]
  omega
theorem u_lo (c : Int32) : nar .byte ((c >>> ((0 : Int32) &&& 31)).toInt8.toInt32) = bL c := by
  have e : c >>> ((0 : Int32) &&& 31) = c := by
    apply Int32.toInt_inj.mp
    rw [c_ishr c 0 0 (by decide)]
    simp
  rw [e]
  exact nar_bL c
theorem u_hi (c : Int32) : nar .byte ((c >>> ((8 : Int32) &&& 31)).toInt8.toInt32) = bH c := by
  have e : c >>> ((8 : Int32) &&& 31) = c >>> 8 := rfl
  rw [e]
  exact nar_bH c
theorem m255 (x : Int32) : (x &&& (255 : Int32)).toInt = x.toInt % 256 := by
  have := c_mask x 255 8 (by omega) (by decide)
  simpa using this
theorem u_get {c : Int32} (h0 : ¬ c < 0) (h1 : ¬ (65535 : Int32) < c) :
    nar .char ((((bL c &&& (255 : Int32)) <<< ((0 : Int32) &&& 31)) ||| ((bH c &&& (255 : Int32)) <<< ((8 : Int32) &&& 31))).toUInt32.toUInt16.toUInt32.toInt32) = c := by
  have h7 : (65535 : Int32).toInt = 65535 := by decide
  rw [Int32.lt_iff_toInt_lt, z32] at h0
  rw [Int32.lt_iff_toInt_lt, h7] at h1
  apply Int32.toInt_inj.mp
  obtain ⟨x, hx⟩ : ∃ x, x = (bL c &&& (255 : Int32)) <<< ((0 : Int32) &&& 31) := ⟨_, rfl⟩
  obtain ⟨z, hz⟩ : ∃ z, z = (bH c &&& (255 : Int32)) <<< ((8 : Int32) &&& 31) := ⟨_, rfl⟩
  rw [← hx, ← hz]
  have b1 := c_i2b c
  have b2 := c_i2b (c >>> 8)
  have b3 : (c >>> (8 : Int32)).toInt = c.toInt / 256 := c_ishr c 8 8 (by decide)
  have ex : x.toInt = c.toInt % 256 := by
    have e1 := c_ishl (bL c &&& 255) 0 0 (by decide)
    have e2 := m255 (bL c)
    have e3 : (bL c).toInt = c.toInt8.toInt32.toInt := rfl
    have r := rng32 x
    rw [← hx] at e1
    omega
  have ez : z.toInt = (c.toInt / 256) * 256 := by
    have e1 := c_ishl (bH c &&& 255) 8 8 (by decide)
    have e2 := m255 (bH c)
    have e3 : (bH c).toInt = (c >>> 8).toInt8.toInt32.toInt := rfl
    have r := rng32 z
    rw [← hz] at e1
    omega
  have eo := c_or' x z 8 (by omega) 256 (by decide) (by omega) (by omega) (by omega)
  have ro := rng32 (x ||| z)
  have e1 := c_i2c (x ||| z)
  have e2 := c_i2c ((x ||| z).toUInt32.toUInt16.toUInt32.toInt32)
  show ((x ||| z).toUInt32.toUInt16.toUInt32.toInt32).toUInt32.toUInt16.toUInt32.toInt32.toInt = c.toInt
  omega
theorem lat_next : ∀ {cs : List Int32}, ¬ lat cs = cs → ∃ c rest, cs = lat cs ++ c :: rest ∧ (255 : Int32) < c
  | [], h => absurd rfl h
  | x :: cs, h => by
    by_cases hx : (255 : Int32) < x
    · exact ⟨x, cs, by rw [lat_stop hx]; rfl, hx⟩
    · have h2 : lat (x :: cs) = x :: lat cs := by unfold lat; rw [List.takeWhile_cons, if_pos (decide_eq_true hx)]
      rw [h2] at h ⊢
      obtain ⟨c, rest, e, hc⟩ := lat_next (cs := cs) (fun q => h (by rw [q]))
      exact ⟨c, rest, by rw [List.cons_append, ← e], hc⟩
theorem cod1 {n : Nat} (h0 : 0 < n) (h1 : n < 1000000) : nar .byte (((((Int32.ofNat n) - (Int32.ofNat (2 * n)))).toUInt32 >>> ((31 : Int32) &&& 31).toUInt32).toInt32.toInt8.toInt32) = 1 := by
  have e1 := c_isub (Int32.ofNat n) (Int32.ofNat (2 * n))
  rw [i32_toInt (by omega), i32_toInt (by omega)] at e1
  have r := rng32 (Int32.ofNat n - Int32.ofNat (2 * n))
  have e2 := c_iushr (Int32.ofNat n - Int32.ofNat (2 * n)) 31 31 (by decide) (by omega)
  have e3 : (((Int32.ofNat n - Int32.ofNat (2 * n)).toUInt32 >>> ((31 : Int32) &&& 31).toUInt32).toInt32) = 1 := by
    apply Int32.toInt_inj.mp
    rw [e2, show (1 : Int32).toInt = 1 by decide]
    omega
  rw [e3]
  decide
/-- a UTF-16 String at s, its bytes at t, that spells cs -/
def StrU (Z : State) (h : Heap) (s t : Addr) (cs : List Int32) : Prop :=
  Exa Z h s "java/lang/String" ∧ Fld Z h s "java/lang/String" "value" "[B" (.ref t) ∧ Fld Z h s "java/lang/String" "coder" "B" (.int 1) ∧ ∃ kb, Arv Z h t kb .byte (Int32.ofNat (2 * cs.length)) (vU cs) (.int 0)
/-- a String of any chars, as String's own constructor lays it -/
def StrA (Z : State) (h : Heap) (s t : Addr) (cs : List Int32) : Prop := (lat cs = cs ∧ StrL Z h s t cs) ∨ (¬ lat cs = cs ∧ StrU Z h s t cs)
theorem StrA.exa {Z : State} {h : Heap} {s t : Addr} {cs : List Int32} (S : StrA Z h s t cs) : Exa Z h s "java/lang/String" := S.elim (fun q => q.2.1) (fun q => q.2.1)
theorem StrA.ext {Z : State} {h h' : Heap} {s t : Addr} {cs : List Int32} (S : StrA Z h s t cs) (E : Ext h h') : StrA Z h' s t cs := by
  rcases S with ⟨q, S⟩ | ⟨q, a, b, c, kb, d⟩
  · exact Or.inl ⟨q, S.ext E⟩
  · exact Or.inr ⟨q, a.ext E, b.ext E, c.ext E, kb, d.ext E⟩
theorem StrA.keep {Z : State} {h h' : Heap} {s t : Addr} {cs : List Int32} {ws : List Addr} (S : StrA Z h s t cs) (K : Keep h h' ws) (q1 : s ∉ ws) (q2 : t ∉ ws) : StrA Z h' s t cs := by
  rcases S with ⟨q, S⟩ | ⟨q, a, b, c, kb, d⟩
  · exact Or.inl ⟨q, S.keep K q1 q2⟩
  · exact Or.inr ⟨q, a.keep K, b.keep K q1, c.keep K q1, kb, d.keep K q2⟩
theorem StrA.wr {Z : State} {h h' : Heap} {s t a : Addr} {cs : List Int32} {sl : Nat} {v : Value} (S : StrA Z h s t cs) (W : Wr h h' a sl v) (q1 : s ≠ a) (q2 : t ≠ a) : StrA Z h' s t cs := by
  rcases S with ⟨q, S⟩ | ⟨q, x, b, c, kb, d⟩
  · exact Or.inl ⟨q, S.wr W q1 q2⟩
  · exact Or.inr ⟨q, x.wr W, b.other W (Or.inl q1), c.other W (Or.inl q1), kb, d.other W q2⟩
theorem StrA.lt {Z : State} {h : Heap} {s t : Addr} {cs : List Int32} (S : StrA Z h s t cs) : s < h.size := S.exa.lt
theorem StrA.ltT {Z : State} {h : Heap} {s t : Addr} {cs : List Int32} (S : StrA Z h s t cs) : t < h.size := by
  rcases S with ⟨q, S⟩ | ⟨q, a, b, c, kb, d⟩
  · exact S.ltT
  · exact d.lt
theorem StrL.any {Z : State} {h : Heap} {s t : Addr} {cs : List Int32} (S : StrL Z h s t cs) (q : lat cs = cs) : StrA Z h s t cs := Or.inl ⟨q, S⟩
/-! ## bytes tell the chars -/
theorem bL_inj {c d : Int32} (h0 : ¬ c < 0) (h1 : ¬ (255 : Int32) < c) (g0 : ¬ d < 0) (g1 : ¬ (255 : Int32) < d) (e : bL c = bL d) : c = d := by
  have h7 : (255 : Int32).toInt = 255 := by decide
  rw [Int32.lt_iff_toInt_lt, z32] at h0 g0
  rw [Int32.lt_iff_toInt_lt, h7] at h1 g1
  have b1 := c_i2b c
  have b2 := c_i2b d
  have e' : c.toInt8.toInt32.toInt = d.toInt8.toInt32.toInt := congrArg Int32.toInt e
  apply Int32.toInt_inj.mp
  omega
theorem vL_inj : ∀ {cs ds : List Int32}, (∀ c ∈ cs, ¬ c < 0 ∧ ¬ (255 : Int32) < c) → (∀ c ∈ ds, ¬ c < 0 ∧ ¬ (255 : Int32) < c) → cs.map bL = ds.map bL → cs = ds
  | [], [], _, _, _ => rfl
  | [], d :: ds, _, _, e => by cases e
  | c :: cs, [], _, _, e => by cases e
  | c :: cs, d :: ds, h, g, e => by
    simp only [List.map_cons, List.cons.injEq] at e
    have q1 := h c (List.mem_cons_self ..)
    have q2 := g d (List.mem_cons_self ..)
    rw [bL_inj q1.1 q1.2 q2.1 q2.2 e.1, vL_inj (fun x hx => h x (List.mem_cons_of_mem _ hx)) (fun x hx => g x (List.mem_cons_of_mem _ hx)) e.2]
theorem vL_vC (cs : List Int32) : vL cs = vC (cs.map bL) := by simp [vL, vC]
theorem vL_map (cs : List Int32) : vL cs = (cs.map bL).map Value.int := by simp [vL]
theorem Fld.fun1 {Z : State} {h : Heap} {a : Addr} {C n d : String} {v w : Value} (F : Fld Z h a C n d v) (G : Fld Z h a C n d w) : v = w := Classical.byContradiction fun q => Fld.ne F G q rfl
/-- one object, two readings: one text -/
theorem StrL.inj {Z : State} {h : Heap} {s t t' : Addr} {cs ds : List Int32} (S : StrL Z h s t cs) (S' : StrL Z h s t' ds) (h1 : cs.length < 1000000) (h2 : ds.length < 1000000) : cs.map bL = ds.map bL := by
  obtain ⟨-, v, -, kb, A⟩ := S
  obtain ⟨-, v', -, kb', A'⟩ := S'
  have e := Fld.fun1 v v'
  injection e with e
  subst e
  obtain ⟨c, Ar, -, sz, -, H, -⟩ := A
  obtain ⟨c', Ar', -, sz', -, H', -⟩ := A'
  cases Ar.1.symm.trans Ar'.1
  rw [sz] at sz'
  rw [i32_cl (by omega), i32_cl (by omega)] at sz'
  rw [i32_cl (by omega)] at sz
  apply List.ext_getElem
  · simpa using sz'
  · intro i hi hi'
    have hc : i < cs.length := by simpa using hi
    have hd : i < ds.length := by omega
    have q := (H i (by omega)).symm.trans (H' i (by omega))
    simp only [vL, List.getD_eq_getElem?_getD, List.getElem?_map] at q
    simp [hc, hd] at q
    simpa using q
end Jvm.Own
namespace Jvm.Own
open Sem ClassFile Op Lib Jvm.Stand Jvm.Free Jvm.LawKit Jvm.RoadKit
theorem lat_le (cs : List Int32) : (lat cs).length ≤ cs.length := (List.takeWhile_prefix _).length_le
theorem lat_full {cs : List Int32} (h : (lat cs).length = cs.length) : lat cs = cs := (List.takeWhile_prefix _).eq_of_length h
theorem lat_at {cs rest : List Int32} {c : Int32} (e : cs = lat cs ++ c :: rest) : cs[(lat cs).length]? = some c := by
  have := congrArg (fun l : List Int32 => l[(lat cs).length]?) e
  rw [List.getElem?_append_right (Nat.le_refl _), Nat.sub_self] at this
  exact this
end Jvm.Own
namespace Jvm.Pilot.@@N@@
open Jvm Jvm.ClassFile Sem Op Lib Jvm.Free Jvm.Stand Jvm.LawKit Jvm.RoadKit Jvm.Own Bundle Jvm.Pilot.@@N@@.Jvm.D
theorem dc_jdk_52_method_21_code_0 : decode jdk_52_method_21_code 0 = .ok (.iconst 0, 1) := by decide +kernel
theorem dc_jdk_52_method_21_code_1 : decode jdk_52_method_21_code 1 = .ok (.istore 5, 2) := by decide +kernel
theorem dc_jdk_52_method_21_code_3 : decode jdk_52_method_21_code 3 = .ok (.iload 5, 2) := by decide +kernel
theorem dc_jdk_52_method_21_code_5 : decode jdk_52_method_21_code 5 = .ok (.iload 4, 2) := by decide +kernel
theorem dc_jdk_52_method_21_code_7 : decode jdk_52_method_21_code 7 = .ok (.if_icmp .ge 37, 3) := by decide +kernel
theorem dc_jdk_52_method_21_code_44 : decode jdk_52_method_21_code 44 = .ok (.iload 4, 2) := by decide +kernel
theorem dc_jdk_52_method_21_code_46 : decode jdk_52_method_21_code 46 = .ok (.ireturn, 1) := by decide +kernel
theorem dc_jdk_52_method_21_code_10 : decode jdk_52_method_21_code 10 = .ok (.aload_n 0, 1) := by decide +kernel
theorem dc_jdk_52_method_21_code_11 : decode jdk_52_method_21_code 11 = .ok (.iload_n 1, 1) := by decide +kernel
theorem dc_jdk_52_method_21_code_12 : decode jdk_52_method_21_code 12 = .ok (.caload, 1) := by decide +kernel
theorem dc_jdk_52_method_21_code_13 : decode jdk_52_method_21_code 13 = .ok (.istore 6, 2) := by decide +kernel
theorem dc_jdk_52_method_21_code_15 : decode jdk_52_method_21_code 15 = .ok (.iload 6, 2) := by decide +kernel
theorem dc_jdk_52_method_21_code_17 : decode jdk_52_method_21_code 17 = .ok (.sipush 255, 3) := by decide +kernel
theorem dc_jdk_52_method_21_code_20 : decode jdk_52_method_21_code 20 = .ok (.if_icmp .le 6, 3) := by decide +kernel
theorem dc_jdk_52_method_21_code_26 : decode jdk_52_method_21_code 26 = .ok (.aload_n 2, 1) := by decide +kernel
theorem dc_jdk_52_method_21_code_27 : decode jdk_52_method_21_code 27 = .ok (.iload_n 3, 1) := by decide +kernel
theorem dc_jdk_52_method_21_code_28 : decode jdk_52_method_21_code 28 = .ok (.iload 6, 2) := by decide +kernel
theorem dc_jdk_52_method_21_code_30 : decode jdk_52_method_21_code 30 = .ok (.i2b, 1) := by decide +kernel
theorem dc_jdk_52_method_21_code_31 : decode jdk_52_method_21_code 31 = .ok (.bastore, 1) := by decide +kernel
theorem dc_jdk_52_method_21_code_32 : decode jdk_52_method_21_code 32 = .ok (.iinc 1 1, 3) := by decide +kernel
theorem dc_jdk_52_method_21_code_35 : decode jdk_52_method_21_code 35 = .ok (.iinc 3 1, 3) := by decide +kernel
theorem dc_jdk_52_method_21_code_38 : decode jdk_52_method_21_code 38 = .ok (.iinc 5 1, 3) := by decide +kernel
theorem dc_jdk_52_method_21_code_41 : decode jdk_52_method_21_code 41 = .ok (.goto (-38), 3) := by decide +kernel
theorem dc_jdk_52_method_21_code_23 : decode jdk_52_method_21_code 23 = .ok (.iload 5, 2) := by decide +kernel
theorem dc_jdk_52_method_21_code_25 : decode jdk_52_method_21_code 25 = .ok (.ireturn, 1) := by decide +kernel
theorem dc_jdk_52_method_16_code_0 : decode jdk_52_method_16_code 0 = .ok (.iload_n 2, 1) := by decide +kernel
theorem dc_jdk_52_method_16_code_1 : decode jdk_52_method_16_code 1 = .ok (.newarray .byte, 2) := by decide +kernel
theorem dc_jdk_52_method_16_code_3 : decode jdk_52_method_16_code 3 = .ok (.astore_n 3, 1) := by decide +kernel
theorem dc_jdk_52_method_16_code_4 : decode jdk_52_method_16_code 4 = .ok (.aload_n 0, 1) := by decide +kernel
theorem dc_jdk_52_method_16_code_5 : decode jdk_52_method_16_code 5 = .ok (.iload_n 1, 1) := by decide +kernel
theorem dc_jdk_52_method_16_code_6 : decode jdk_52_method_16_code 6 = .ok (.aload_n 3, 1) := by decide +kernel
theorem dc_jdk_52_method_16_code_7 : decode jdk_52_method_16_code 7 = .ok (.iconst 0, 1) := by decide +kernel
theorem dc_jdk_52_method_16_code_8 : decode jdk_52_method_16_code 8 = .ok (.iload_n 2, 1) := by decide +kernel
theorem dc_jdk_52_method_16_code_9 : decode jdk_52_method_16_code 9 = .ok (.invokestatic 115, 3) := by decide +kernel
theorem dc_jdk_52_method_16_code_12 : decode jdk_52_method_16_code 12 = .ok (.istore 4, 2) := by decide +kernel
theorem dc_jdk_52_method_16_code_14 : decode jdk_52_method_16_code 14 = .ok (.iload 4, 2) := by decide +kernel
theorem dc_jdk_52_method_16_code_16 : decode jdk_52_method_16_code 16 = .ok (.iload_n 2, 1) := by decide +kernel
theorem dc_jdk_52_method_16_code_17 : decode jdk_52_method_16_code 17 = .ok (.if_icmp .eq 40, 3) := by decide +kernel
theorem dc_jdk_52_method_16_code_57 : decode jdk_52_method_16_code 57 = .ok (.aload_n 3, 1) := by decide +kernel
theorem dc_jdk_52_method_16_code_58 : decode jdk_52_method_16_code 58 = .ok (.areturn, 1) := by decide +kernel
theorem dc_jdk_52_method_15_code_0 : decode jdk_52_method_15_code 0 = .ok (.iload_n 1, 1) := by decide +kernel
theorem dc_jdk_52_method_15_code_1 : decode jdk_52_method_15_code 1 = .ok (.aload_n 0, 1) := by decide +kernel
theorem dc_jdk_52_method_15_code_2 : decode jdk_52_method_15_code 2 = .ok (.arraylength, 1) := by decide +kernel
theorem dc_jdk_52_method_15_code_3 : decode jdk_52_method_15_code 3 = .ok (.isub, 1) := by decide +kernel
theorem dc_jdk_52_method_15_code_4 : decode jdk_52_method_15_code 4 = .ok (.bipush 31, 2) := by decide +kernel
theorem dc_jdk_52_method_15_code_6 : decode jdk_52_method_15_code 6 = .ok (.iushr, 1) := by decide +kernel
theorem dc_jdk_52_method_15_code_7 : decode jdk_52_method_15_code 7 = .ok (.i2b, 1) := by decide +kernel
theorem dc_jdk_52_method_15_code_8 : decode jdk_52_method_15_code 8 = .ok (.ireturn, 1) := by decide +kernel
theorem dc_jdk_42_method_149_code_0 : decode jdk_42_method_149_code 0 = .ok (.aload_n 0, 1) := by decide +kernel
theorem dc_jdk_42_method_149_code_1 : decode jdk_42_method_149_code 1 = .ok (.invokespecial 1, 3) := by decide +kernel
theorem dc_jdk_42_method_149_code_4 : decode jdk_42_method_149_code 4 = .ok (.iload_n 3, 1) := by decide +kernel
theorem dc_jdk_42_method_149_code_5 : decode jdk_42_method_149_code 5 = .ok (.ifCond .ne 22, 3) := by decide +kernel
theorem dc_jdk_42_method_149_code_27 : decode jdk_42_method_149_code 27 = .ok (.getstatic 38, 3) := by decide +kernel
theorem dc_jdk_42_method_149_code_30 : decode jdk_42_method_149_code 30 = .ok (.ifCond .eq 28, 3) := by decide +kernel
theorem dc_jdk_42_method_149_code_33 : decode jdk_42_method_149_code 33 = .ok (.aload_n 1, 1) := by decide +kernel
theorem dc_jdk_42_method_149_code_34 : decode jdk_42_method_149_code 34 = .ok (.iload_n 2, 1) := by decide +kernel
theorem dc_jdk_42_method_149_code_35 : decode jdk_42_method_149_code 35 = .ok (.iload_n 3, 1) := by decide +kernel
theorem dc_jdk_42_method_149_code_36 : decode jdk_42_method_149_code 36 = .ok (.invokestatic 177, 3) := by decide +kernel
theorem dc_jdk_42_method_149_code_39 : decode jdk_42_method_149_code 39 = .ok (.astore 5, 2) := by decide +kernel
theorem dc_jdk_42_method_149_code_41 : decode jdk_42_method_149_code 41 = .ok (.aload_n 0, 1) := by decide +kernel
theorem dc_jdk_42_method_149_code_42 : decode jdk_42_method_149_code 42 = .ok (.aload 5, 2) := by decide +kernel
theorem dc_jdk_42_method_149_code_44 : decode jdk_42_method_149_code 44 = .ok (.iload_n 3, 1) := by decide +kernel
theorem dc_jdk_42_method_149_code_45 : decode jdk_42_method_149_code 45 = .ok (.invokestatic 47, 3) := by decide +kernel
theorem dc_jdk_42_method_149_code_48 : decode jdk_42_method_149_code 48 = .ok (.putfield 15, 3) := by decide +kernel
theorem dc_jdk_42_method_149_code_51 : decode jdk_42_method_149_code 51 = .ok (.aload_n 0, 1) := by decide +kernel
theorem dc_jdk_42_method_149_code_52 : decode jdk_42_method_149_code 52 = .ok (.aload 5, 2) := by decide +kernel
theorem dc_jdk_42_method_149_code_54 : decode jdk_42_method_149_code 54 = .ok (.putfield 9, 3) := by decide +kernel
theorem dc_jdk_42_method_149_code_57 : decode jdk_42_method_149_code 57 = .ok (.return_, 1) := by decide +kernel
theorem dc_jdk_42_method_3_code_0 : decode jdk_42_method_3_code 0 = .ok (.aload_n 0, 1) := by decide +kernel
theorem dc_jdk_42_method_3_code_1 : decode jdk_42_method_3_code 1 = .ok (.aload_n 1, 1) := by decide +kernel
theorem dc_jdk_42_method_3_code_2 : decode jdk_42_method_3_code 2 = .ok (.iconst 0, 1) := by decide +kernel
theorem dc_jdk_42_method_3_code_3 : decode jdk_42_method_3_code 3 = .ok (.aload_n 1, 1) := by decide +kernel
theorem dc_jdk_42_method_3_code_4 : decode jdk_42_method_3_code 4 = .ok (.arraylength, 1) := by decide +kernel
theorem dc_jdk_42_method_3_code_5 : decode jdk_42_method_3_code 5 = .ok (.aconst_null, 1) := by decide +kernel
theorem dc_jdk_42_method_3_code_6 : decode jdk_42_method_3_code 6 = .ok (.invokespecial 27, 3) := by decide +kernel
theorem dc_jdk_42_method_3_code_9 : decode jdk_42_method_3_code 9 = .ok (.return_, 1) := by decide +kernel
theorem dc_jdk_43_method_13_code_0 : decode jdk_43_method_13_code 0 = .ok (.aload_n 0, 1) := by decide +kernel
theorem dc_jdk_43_method_13_code_1 : decode jdk_43_method_13_code 1 = .ok (.arraylength, 1) := by decide +kernel
theorem dc_jdk_43_method_13_code_2 : decode jdk_43_method_13_code 2 = .ok (.aload_n 1, 1) := by decide +kernel
theorem dc_jdk_43_method_13_code_3 : decode jdk_43_method_13_code 3 = .ok (.arraylength, 1) := by decide +kernel
theorem dc_jdk_43_method_13_code_4 : decode jdk_43_method_13_code 4 = .ok (.if_icmp .ne 30, 3) := by decide +kernel
theorem dc_jdk_43_method_13_code_34 : decode jdk_43_method_13_code 34 = .ok (.iconst 0, 1) := by decide +kernel
theorem dc_jdk_43_method_13_code_35 : decode jdk_43_method_13_code 35 = .ok (.ireturn, 1) := by decide +kernel
theorem dc_jdk_43_method_13_code_7 : decode jdk_43_method_13_code 7 = .ok (.iconst 0, 1) := by decide +kernel
theorem dc_jdk_43_method_13_code_8 : decode jdk_43_method_13_code 8 = .ok (.istore_n 2, 1) := by decide +kernel
theorem dc_jdk_43_method_13_code_9 : decode jdk_43_method_13_code 9 = .ok (.iload_n 2, 1) := by decide +kernel
theorem dc_jdk_43_method_13_code_10 : decode jdk_43_method_13_code 10 = .ok (.aload_n 0, 1) := by decide +kernel
theorem dc_jdk_43_method_13_code_11 : decode jdk_43_method_13_code 11 = .ok (.arraylength, 1) := by decide +kernel
theorem dc_jdk_43_method_13_code_12 : decode jdk_43_method_13_code 12 = .ok (.if_icmp .ge 20, 3) := by decide +kernel
theorem dc_jdk_43_method_13_code_32 : decode jdk_43_method_13_code 32 = .ok (.iconst 1, 1) := by decide +kernel
theorem dc_jdk_43_method_13_code_33 : decode jdk_43_method_13_code 33 = .ok (.ireturn, 1) := by decide +kernel
theorem dc_jdk_43_method_13_code_15 : decode jdk_43_method_13_code 15 = .ok (.aload_n 0, 1) := by decide +kernel
theorem dc_jdk_43_method_13_code_16 : decode jdk_43_method_13_code 16 = .ok (.iload_n 2, 1) := by decide +kernel
theorem dc_jdk_43_method_13_code_17 : decode jdk_43_method_13_code 17 = .ok (.baload, 1) := by decide +kernel
theorem dc_jdk_43_method_13_code_18 : decode jdk_43_method_13_code 18 = .ok (.aload_n 1, 1) := by decide +kernel
theorem dc_jdk_43_method_13_code_19 : decode jdk_43_method_13_code 19 = .ok (.iload_n 2, 1) := by decide +kernel
theorem dc_jdk_43_method_13_code_20 : decode jdk_43_method_13_code 20 = .ok (.baload, 1) := by decide +kernel
theorem dc_jdk_43_method_13_code_21 : decode jdk_43_method_13_code 21 = .ok (.if_icmp .eq 5, 3) := by decide +kernel
theorem dc_jdk_43_method_13_code_26 : decode jdk_43_method_13_code 26 = .ok (.iinc 2 1, 3) := by decide +kernel
theorem dc_jdk_43_method_13_code_29 : decode jdk_43_method_13_code 29 = .ok (.goto (-20), 3) := by decide +kernel
theorem dc_jdk_43_method_13_code_24 : decode jdk_43_method_13_code 24 = .ok (.iconst 0, 1) := by decide +kernel
theorem dc_jdk_43_method_13_code_25 : decode jdk_43_method_13_code 25 = .ok (.ireturn, 1) := by decide +kernel
theorem dc_jdk_42_method_66_code_0 : decode jdk_42_method_66_code 0 = .ok (.aload_n 0, 1) := by decide +kernel
theorem dc_jdk_42_method_66_code_1 : decode jdk_42_method_66_code 1 = .ok (.aload_n 1, 1) := by decide +kernel
theorem dc_jdk_42_method_66_code_2 : decode jdk_42_method_66_code 2 = .ok (.if_acmp .ne 5, 3) := by decide +kernel
theorem dc_jdk_42_method_66_code_5 : decode jdk_42_method_66_code 5 = .ok (.iconst 1, 1) := by decide +kernel
theorem dc_jdk_42_method_66_code_6 : decode jdk_42_method_66_code 6 = .ok (.ireturn, 1) := by decide +kernel
theorem dc_jdk_42_method_66_code_7 : decode jdk_42_method_66_code 7 = .ok (.aload_n 1, 1) := by decide +kernel
theorem dc_jdk_42_method_66_code_8 : decode jdk_42_method_66_code 8 = .ok (.instanceof 10, 3) := by decide +kernel
theorem dc_jdk_42_method_66_code_11 : decode jdk_42_method_66_code 11 = .ok (.ifCond .eq 43, 3) := by decide +kernel
theorem dc_jdk_42_method_66_code_14 : decode jdk_42_method_66_code 14 = .ok (.aload_n 1, 1) := by decide +kernel
theorem dc_jdk_42_method_66_code_15 : decode jdk_42_method_66_code 15 = .ok (.checkcast 10, 3) := by decide +kernel
theorem dc_jdk_42_method_66_code_18 : decode jdk_42_method_66_code 18 = .ok (.astore_n 2, 1) := by decide +kernel
theorem dc_jdk_42_method_66_code_19 : decode jdk_42_method_66_code 19 = .ok (.getstatic 38, 3) := by decide +kernel
theorem dc_jdk_42_method_66_code_22 : decode jdk_42_method_66_code 22 = .ok (.ifCond .eq 14, 3) := by decide +kernel
theorem dc_jdk_42_method_66_code_25 : decode jdk_42_method_66_code 25 = .ok (.aload_n 0, 1) := by decide +kernel
theorem dc_jdk_42_method_66_code_26 : decode jdk_42_method_66_code 26 = .ok (.getfield 15, 3) := by decide +kernel
theorem dc_jdk_42_method_66_code_29 : decode jdk_42_method_66_code 29 = .ok (.aload_n 2, 1) := by decide +kernel
theorem dc_jdk_42_method_66_code_30 : decode jdk_42_method_66_code 30 = .ok (.getfield 15, 3) := by decide +kernel
theorem dc_jdk_42_method_66_code_33 : decode jdk_42_method_66_code 33 = .ok (.if_icmp .ne 21, 3) := by decide +kernel
theorem dc_jdk_42_method_66_code_36 : decode jdk_42_method_66_code 36 = .ok (.aload_n 0, 1) := by decide +kernel
theorem dc_jdk_42_method_66_code_37 : decode jdk_42_method_66_code 37 = .ok (.getfield 9, 3) := by decide +kernel
theorem dc_jdk_42_method_66_code_40 : decode jdk_42_method_66_code 40 = .ok (.aload_n 2, 1) := by decide +kernel
theorem dc_jdk_42_method_66_code_41 : decode jdk_42_method_66_code 41 = .ok (.getfield 9, 3) := by decide +kernel
theorem dc_jdk_42_method_66_code_44 : decode jdk_42_method_66_code 44 = .ok (.invokestatic 541, 3) := by decide +kernel
theorem dc_jdk_42_method_66_code_47 : decode jdk_42_method_66_code 47 = .ok (.ifCond .eq 7, 3) := by decide +kernel
theorem dc_jdk_42_method_66_code_54 : decode jdk_42_method_66_code 54 = .ok (.iconst 0, 1) := by decide +kernel
theorem dc_jdk_42_method_66_code_55 : decode jdk_42_method_66_code 55 = .ok (.ireturn, 1) := by decide +kernel
theorem dc_jdk_42_method_66_code_50 : decode jdk_42_method_66_code 50 = .ok (.iconst 1, 1) := by decide +kernel
theorem dc_jdk_42_method_66_code_51 : decode jdk_42_method_66_code 51 = .ok (.goto 4, 3) := by decide +kernel
theorem dc_jdk_31_method_11_code_0 : decode jdk_31_method_11_code 0 = .ok (.aload_n 0, 1) := by decide +kernel
theorem dc_jdk_31_method_11_code_1 : decode jdk_31_method_11_code 1 = .ok (.ifnonnull 12, 3) := by decide +kernel
theorem dc_jdk_31_method_11_code_13 : decode jdk_31_method_11_code 13 = .ok (.aload_n 0, 1) := by decide +kernel
theorem dc_jdk_31_method_11_code_14 : decode jdk_31_method_11_code 14 = .ok (.areturn, 1) := by decide +kernel
theorem dc_prog_27_method_1_code_0 : decode prog_27_method_1_code 0 = .ok (.getstatic 10, 3) := by decide +kernel
theorem dc_prog_27_method_1_code_3 : decode prog_27_method_1_code 3 = .ok (.invokevirtual 14, 3) := by decide +kernel
theorem dc_prog_27_method_1_code_6 : decode prog_27_method_1_code 6 = .ok (.checkcast 15, 3) := by decide +kernel
theorem dc_prog_27_method_1_code_9 : decode prog_27_method_1_code 9 = .ok (.areturn, 1) := by decide +kernel
theorem dc_prog_27_method_4_code_0 : decode prog_27_method_4_code 0 = .ok (.aload_n 0, 1) := by decide +kernel
theorem dc_prog_27_method_4_code_1 : decode prog_27_method_4_code 1 = .ok (.ldc 33, 2) := by decide +kernel
theorem dc_prog_27_method_4_code_3 : decode prog_27_method_4_code 3 = .ok (.invokestatic 35, 3) := by decide +kernel
theorem dc_prog_27_method_4_code_6 : decode prog_27_method_4_code 6 = .ok (.pop, 1) := by decide +kernel
theorem dc_prog_27_method_4_code_7 : decode prog_27_method_4_code 7 = .ok (.aconst_null, 1) := by decide +kernel
theorem dc_prog_27_method_4_code_8 : decode prog_27_method_4_code 8 = .ok (.astore_n 1, 1) := by decide +kernel
theorem dc_prog_27_method_4_code_9 : decode prog_27_method_4_code 9 = .ok (.invokestatic 41, 3) := by decide +kernel
theorem dc_prog_27_method_4_code_12 : decode prog_27_method_4_code 12 = .ok (.astore_n 2, 1) := by decide +kernel
theorem dc_prog_27_method_4_code_13 : decode prog_27_method_4_code 13 = .ok (.aload_n 2, 1) := by decide +kernel
theorem dc_prog_27_method_4_code_14 : decode prog_27_method_4_code 14 = .ok (.arraylength, 1) := by decide +kernel
theorem dc_prog_27_method_4_code_15 : decode prog_27_method_4_code 15 = .ok (.istore_n 3, 1) := by decide +kernel
theorem dc_prog_27_method_4_code_16 : decode prog_27_method_4_code 16 = .ok (.iconst 0, 1) := by decide +kernel
theorem dc_prog_27_method_4_code_17 : decode prog_27_method_4_code 17 = .ok (.istore 4, 2) := by decide +kernel
theorem dc_prog_27_method_4_code_19 : decode prog_27_method_4_code 19 = .ok (.iload 4, 2) := by decide +kernel
theorem dc_prog_27_method_4_code_21 : decode prog_27_method_4_code 21 = .ok (.iload_n 3, 1) := by decide +kernel
theorem dc_prog_27_method_4_code_22 : decode prog_27_method_4_code 22 = .ok (.if_icmp .ge 33, 3) := by decide +kernel
theorem dc_prog_27_method_4_code_25 : decode prog_27_method_4_code 25 = .ok (.aload_n 2, 1) := by decide +kernel
theorem dc_prog_27_method_4_code_26 : decode prog_27_method_4_code 26 = .ok (.iload 4, 2) := by decide +kernel
theorem dc_prog_27_method_4_code_28 : decode prog_27_method_4_code 28 = .ok (.aaload, 1) := by decide +kernel
theorem dc_prog_27_method_4_code_29 : decode prog_27_method_4_code 29 = .ok (.astore 5, 2) := by decide +kernel
theorem dc_prog_27_method_4_code_31 : decode prog_27_method_4_code 31 = .ok (.aload 5, 2) := by decide +kernel
theorem dc_prog_27_method_4_code_33 : decode prog_27_method_4_code 33 = .ok (.getfield 29, 3) := by decide +kernel
theorem dc_prog_27_method_4_code_36 : decode prog_27_method_4_code 36 = .ok (.aload_n 0, 1) := by decide +kernel
theorem dc_prog_27_method_4_code_37 : decode prog_27_method_4_code 37 = .ok (.invokevirtual 45, 3) := by decide +kernel
theorem dc_prog_27_method_4_code_40 : decode prog_27_method_4_code 40 = .ok (.ifCond .eq 9, 3) := by decide +kernel
theorem dc_prog_27_method_4_code_43 : decode prog_27_method_4_code 43 = .ok (.aload 5, 2) := by decide +kernel
theorem dc_prog_27_method_4_code_45 : decode prog_27_method_4_code 45 = .ok (.astore_n 1, 1) := by decide +kernel
theorem dc_prog_27_method_4_code_46 : decode prog_27_method_4_code 46 = .ok (.goto 9, 3) := by decide +kernel
theorem dc_prog_27_method_4_code_55 : decode prog_27_method_4_code 55 = .ok (.aload_n 1, 1) := by decide +kernel
theorem dc_prog_27_method_4_code_56 : decode prog_27_method_4_code 56 = .ok (.ifnonnull 17, 3) := by decide +kernel
theorem dc_prog_27_method_4_code_73 : decode prog_27_method_4_code 73 = .ok (.aload_n 1, 1) := by decide +kernel
theorem dc_prog_27_method_4_code_74 : decode prog_27_method_4_code 74 = .ok (.areturn, 1) := by decide +kernel
theorem dc_prog_27_method_4_code_49 : decode prog_27_method_4_code 49 = .ok (.iinc 4 1, 3) := by decide +kernel
theorem dc_prog_27_method_4_code_52 : decode prog_27_method_4_code 52 = .ok (.goto (-33), 3) := by decide +kernel
theorem pd_0 : parseMethodDescriptor "([CI[BII)I" = some ⟨[(.array .char), .int, (.array .byte), .int, .int], some .int⟩ := by decide +kernel
theorem pd_1 : parseMethodDescriptor "([CII)[B" = some ⟨[(.array .char), .int, .int], some (.array .byte)⟩ := by decide +kernel
theorem pd_2 : parseMethodDescriptor "([BI)B" = some ⟨[(.array .byte), .int], some .byte⟩ := by decide +kernel
theorem pd_3 : parseMethodDescriptor "([CIILjava/lang/Void;)V" = some ⟨[(.array .char), .int, .int, (.object "java/lang/Void")], none⟩ := by decide +kernel
theorem pd_4 : parseMethodDescriptor "([B[B)Z" = some ⟨[(.array .byte), (.array .byte)], some .boolean⟩ := by decide +kernel
theorem pd_5 : parseMethodDescriptor "(Ljava/lang/Object;Ljava/lang/String;)Ljava/lang/Object;" = some ⟨[(.object "java/lang/Object"), (.object "java/lang/String")], some (.object "java/lang/Object")⟩ := by decide +kernel
theorem pd_6 : parseMethodDescriptor "()[Lcom/example/vesta/vesta/model/BeanScope;" = some ⟨[], some (.array (.object "com/example/vesta/vesta/model/BeanScope"))⟩ := by decide +kernel
theorem pd_7 : parseMethodDescriptor "(Ljava/lang/Object;)Z" = some ⟨[(.object "java/lang/Object")], some .boolean⟩ := by decide +kernel
theorem pd_8 : parseMethodDescriptor "([C)V" = some ⟨[(.array .char)], none⟩ := by decide +kernel
theorem pd_9 : parseMethodDescriptor "(Ljava/lang/String;)Lcom/example/vesta/vesta/model/BeanScope;" = some ⟨[(.object "java/lang/String")], some (.object "com/example/vesta/vesta/model/BeanScope")⟩ := by decide +kernel

def sgL : List Int32 := [115, 105, 110, 103, 108, 101, 116, 111, 110]
def ptL : List Int32 := [112, 114, 111, 116, 111, 116, 121, 112, 101]
theorem own_sg : ∀ x ∈ sgL, ¬ x < 0 ∧ ¬ (255 : Int32) < x := by decide
theorem own_pt : ∀ x ∈ ptL, ¬ x < 0 ∧ ¬ (255 : Int32) < x := by decide
theorem own_eqref {args : Array Value} {s : State} {a b : Term} {x : Addr} (h : (Jvm.Cond.eq a b).value args s none s [] = some true) (hb : b.eval args s none [] s = some (.ref x)) : a.eval args s none [] s = some (.ref x) := by
  obtain ⟨u, v, eu, ev, k1, k2⟩ := cmp_v (Or.inl h)
  cases ev.symm.trans hb
  have hu : u.isRef = true := k2.2
  have := gotT (eq_R eu ev hu rfl) h
  rw [eu, this]

set_option maxRecDepth 65536 in
set_option maxHeartbeats 40000000 in
theorem st_cmp5 {l : Launch} {Z : State} {a0 : Array Value} (hw : ∀ d ∈ tables_1, d.before a0 Z = true) (a b : Addr) (ka kb : ClassId) (cs : List Int32) (d : Value) (h0 : Heap) (A1 : Arv Z h0 a ka .char (Int32.ofNat cs.length) (vC cs) d) (B1 : Arv Z h0 b kb .byte (Int32.ofNat cs.length) [] (.int 0)) (hab : a ≠ b) (gb : Z.heap.size ≤ b) (hn : cs.length ≤ 4000) :
    Met l Z (⟨"java/lang/StringUTF16", "compress", "([CI[BII)I"⟩ : MethodName) jdk_52_method_21_code 7 (some .int) false [] ({ frames := 0, cells := 0, slots := 0, locals := 0 } : Room) #[(.ref a), (.int (0 : Int32)), (.ref b), (.int (0 : Int32)), (.int (Int32.ofNat cs.length))] h0 (false, [], []) (fun v h J => v = some (.int (Int32.ofNat (lat cs).length)) ∧ Keep h0 h [b] ∧ Arv Z h b kb .byte (Int32.ofNat cs.length) (vL (lat cs)) (.int 0)) := by
  refine Met.of_goes (Ls := #[.val (.ref a), .val (.int (0 : Int32)), .val (.ref b), .val (.int (0 : Int32)), .val (.int (Int32.ofNat cs.length)), .unset, .unset]) (by first | exact plainFor_of_name (by first | (simp [plainName, overriddenIn]; done) | decide +kernel) | decide +kernel) (fun m => by first | (simp [entryFrame, mkF, argsToLocals, Value.category]; done) | rfl) rfl (fun G hGl => ?_)
  subst hGl
  refine Wlk.iconst (pc' := 1) (v := (0 : Int32)) dc_jdk_52_method_21_code_0 rfl rfl ?_
  refine Wlk.istore (pc' := 3) (Ls' := #[.val (.ref a), .val (.int (0 : Int32)), .val (.ref b), .val (.int (0 : Int32)), .val (.int (Int32.ofNat cs.length)), .val (.int (0 : Int32)), .unset]) dc_jdk_52_method_21_code_1 rfl rfl rfl ?_
  have loop : ∀ (rest pre : List Int32) (h : Heap) (o6 : Slot), One o6 → cs = pre ++ rest → (∀ c ∈ pre, ¬ (255 : Int32) < c) → Keep h0 h [b] → Arv Z h b kb .byte (Int32.ofNat cs.length) (vL pre) (.int 0) → Wlk G ({ frames := 0, cells := 0, slots := 0, locals := 0 } : Room) Z (⟨"java/lang/StringUTF16", "compress", "([CI[BII)I"⟩ : MethodName) jdk_52_method_21_code (some .int) false (false, [], []) (fun v h J => v = some (.int (Int32.ofNat (lat cs).length)) ∧ Keep h0 h [b] ∧ Arv Z h b kb .byte (Int32.ofNat cs.length) (vL (lat cs)) (.int 0)) h 0 0 3 #[.val (.ref a), .val (.int (Int32.ofNat pre.length)), .val (.ref b), .val (.int (Int32.ofNat pre.length)), .val (.int (Int32.ofNat cs.length)), .val (.int (Int32.ofNat pre.length)), o6] [] := by
    intro rest
    induction rest with
    | nil =>
      intro pre h o6 ho hcs hp K B
      rw [List.append_nil] at hcs
      subst hcs
      refine Wlk.iload (pc' := 5) (v := (Int32.ofNat cs.length)) dc_jdk_52_method_21_code_3 rfl rfl ?_
      refine Wlk.iload (pc' := 7) (v := (Int32.ofNat cs.length)) dc_jdk_52_method_21_code_5 rfl rfl ?_
      refine Wlk.icT (pc' := 44) dc_jdk_52_method_21_code_7 (by decide) (by decide) (show ¬ ((Int32.ofNat cs.length) < (Int32.ofNat cs.length)) from (fun q => absurd ((i32_lt (by omega) (by omega)).mp q) (Nat.lt_irrefl _))) ?_
      refine Wlk.iload (pc' := 46) (v := (Int32.ofNat cs.length)) dc_jdk_52_method_21_code_44 rfl rfl ?_
      refine Wlk.ireturnI dc_jdk_52_method_21_code_46 rfl (by decide) (by decide) ?_
      exact ⟨by rw [lat_all hp], K, by rw [lat_all hp]; exact B⟩
    | cons c rest ih =>
      intro pre h o6 ho hcs hp K B
      have hl : cs.length = pre.length + (rest.length + 1) := by rw [hcs]; simp
      have A := A1.keep K (ninS hab nin0)
      have B2 := B.pad (pad_rep _ _ 1)
      refine Wlk.iload (pc' := 5) (v := (Int32.ofNat pre.length)) dc_jdk_52_method_21_code_3 rfl rfl ?_
      refine Wlk.iload (pc' := 7) (v := (Int32.ofNat cs.length)) dc_jdk_52_method_21_code_5 rfl rfl ?_
      refine Wlk.icF (pc' := 10) dc_jdk_52_method_21_code_7 (show (Int32.ofNat pre.length) < (Int32.ofNat cs.length) from ((i32_lt (by omega) (by omega)).mpr (by omega))) rfl ?_
      refine Wlk.aloadN (pc' := 11) (v := (.ref a)) dc_jdk_52_method_21_code_10 rfl rfl rfl ?_
      refine Wlk.iloadN (pc' := 12) (v := (Int32.ofNat pre.length)) dc_jdk_52_method_21_code_11 rfl rfl ?_
      refine Wlk.caload (pc' := 13) (v := (.int c)) dc_jdk_52_method_21_code_12 A ⟨i32_nn (by omega), (i32_lt (by omega) (by omega)).mpr (by omega)⟩ (by rw [i32_cl (by omega), hcs]; simp [vC]) rfl ?_
      refine Wlk.istore (pc' := 15) (Ls' := #[.val (.ref a), .val (.int (Int32.ofNat pre.length)), .val (.ref b), .val (.int (Int32.ofNat pre.length)), .val (.int (Int32.ofNat cs.length)), .val (.int (Int32.ofNat pre.length)), .val (.int c)]) dc_jdk_52_method_21_code_13 (XS.store1 (o := o6) rfl ho rfl) rfl rfl ?_
      refine Wlk.iload (pc' := 17) (v := c) dc_jdk_52_method_21_code_15 rfl rfl ?_
      refine Wlk.sipush (pc' := 20) (v := (255 : Int32)) dc_jdk_52_method_21_code_17 (by decide) rfl ?_
      refine Wlk.ic_ (pcT := 26) (pcF := 23) dc_jdk_52_method_21_code_20 (by decide) (by decide) rfl (fun (hc1 : ¬ ((255 : Int32) < c)) => ?_) (fun (hc1 : (255 : Int32) < c) => ?_)
      · skip
        refine Wlk.aloadN (pc' := 27) (v := (.ref b)) dc_jdk_52_method_21_code_26 rfl rfl rfl ?_
        refine Wlk.iloadN (pc' := 28) (v := (Int32.ofNat pre.length)) dc_jdk_52_method_21_code_27 rfl rfl ?_
        refine Wlk.iload (pc' := 30) (v := c) dc_jdk_52_method_21_code_28 rfl rfl ?_
        refine Wlk.i2b (pc' := 31) dc_jdk_52_method_21_code_30 rfl ?_
        refine Wlk.bastore (pc' := 32) (i := pre.length) dc_jdk_52_method_21_code_31 B2 ⟨i32_nn (by omega), (i32_lt (by omega) (by omega)).mpr (by omega)⟩ (i32_cl (by omega)) (by simp [vL]) gb rfl (fun h2 W3 A4 => ?_)
        refine Wlk.iinc (pc' := 35) (v := (1 : Int32)) (x := (Int32.ofNat pre.length)) (Ls' := #[.val (.ref a), .val (.int ((Int32.ofNat pre.length) + (1 : Int32))), .val (.ref b), .val (.int (Int32.ofNat pre.length)), .val (.int (Int32.ofNat cs.length)), .val (.int (Int32.ofNat pre.length)), .val (.int c)]) dc_jdk_52_method_21_code_32 (by decide) rfl rfl rfl rfl ?_
        refine Wlk.iinc (pc' := 38) (v := (1 : Int32)) (x := (Int32.ofNat pre.length)) (Ls' := #[.val (.ref a), .val (.int ((Int32.ofNat pre.length) + (1 : Int32))), .val (.ref b), .val (.int ((Int32.ofNat pre.length) + (1 : Int32))), .val (.int (Int32.ofNat cs.length)), .val (.int (Int32.ofNat pre.length)), .val (.int c)]) dc_jdk_52_method_21_code_35 (by decide) rfl rfl rfl rfl ?_
        refine Wlk.iinc (pc' := 41) (v := (1 : Int32)) (x := (Int32.ofNat pre.length)) (Ls' := #[.val (.ref a), .val (.int ((Int32.ofNat pre.length) + (1 : Int32))), .val (.ref b), .val (.int ((Int32.ofNat pre.length) + (1 : Int32))), .val (.int (Int32.ofNat cs.length)), .val (.int ((Int32.ofNat pre.length) + (1 : Int32))), .val (.int c)]) dc_jdk_52_method_21_code_38 (by decide) rfl rfl rfl rfl ?_
        refine Wlk.goto (pc' := 3) dc_jdk_52_method_21_code_41 (by decide) (by decide) ?_
        have e1 : Int32.ofNat pre.length + 1 = Int32.ofNat (pre ++ [c]).length := by rw [i32_succ]; simp
        rw [e1]
        refine ih (pre ++ [c]) _ _ (One.val rfl) (by rw [hcs]; simp) (fun x hx => ?_) (K.wr W3 (Or.inl (List.mem_of_getElem? (i := 0) rfl))) (set_vL pre c ▸ A4)
        rcases List.mem_append.mp hx with hx | hx
        · exact hp x hx
        · rw [List.mem_singleton.mp hx]; exact hc1
      · skip
        refine Wlk.iload (pc' := 25) (v := (Int32.ofNat pre.length)) dc_jdk_52_method_21_code_23 rfl rfl ?_
        refine Wlk.ireturnI dc_jdk_52_method_21_code_25 rfl (by decide) (by decide) ?_
        have el : lat cs = pre := by rw [hcs, lat_app hp, lat_stop hc1, List.append_nil]
        exact ⟨by rw [el], K, by rw [el]; exact B⟩
  exact loop cs [] h0 .unset One.u rfl (fun _ q => nomatch q) (Keep.refl _ _) B1

set_option maxRecDepth 65536 in
set_option maxHeartbeats 40000000 in
theorem st_cmp3 {l : Launch} {Z : State} {a0 : Array Value} (hw : ∀ d ∈ tables_1, d.before a0 Z = true) (a : Addr) (ka : ClassId) (cs : List Int32) (d : Value) (h0 : Heap) (A1 : Arv Z h0 a ka .char (Int32.ofNat cs.length) (vC cs) d) (hn : cs.length ≤ 9) (hL : ∀ c ∈ cs, ¬ (255 : Int32) < c) :
    Met l Z (⟨"java/lang/StringUTF16", "compress", "([CII)[B"⟩ : MethodName) jdk_52_method_16_code 6 (some (.array .byte)) false [] ({ frames := 1, cells := 1, slots := 9, locals := 18 } : Room) #[(.ref a), (.int (0 : Int32)), (.int (Int32.ofNat cs.length))] h0 (false, [], []) (fun v h J => ∃ (t : Addr) (kb : ClassId), v = some (.ref t) ∧ h0.size ≤ t ∧ Z.heap.size ≤ t ∧ Keep h0 h [] ∧ Arv Z h t kb .byte (Int32.ofNat cs.length) (vL cs) (.int 0)) := by
  refine Met.of_goes (Ls := #[.val (.ref a), .val (.int (0 : Int32)), .val (.int (Int32.ofNat cs.length)), .unset, .unset, .unset]) (by first | exact plainFor_of_name (by first | (simp [plainName, overriddenIn]; done) | decide +kernel) | decide +kernel) (fun m => by first | (simp [entryFrame, mkF, argsToLocals, Value.category]; done) | rfl) rfl (fun G hGl => ?_)
  subst hGl
  refine Wlk.iloadN (pc' := 1) (v := (Int32.ofNat cs.length)) dc_jdk_52_method_16_code_0 rfl rfl ?_
  refine Wlk.newP (pc' := 3) (ty := .byte) (cap := 9) dc_jdk_52_method_16_code_1 rfl (hw _ (List.mem_of_getElem? (i := 19) rfl)) (i32_nn (by omega)) (by rw [i32_cl (by omega)]; exact hn) (by decide) (by decide) (by decide) rfl (fun b5 h6 kc7 le8 g9 E10 A11 => ?_)
  refine Wlk.astoreN (pc' := 4) (Ls' := #[.val (.ref a), .val (.int (0 : Int32)), .val (.int (Int32.ofNat cs.length)), .val (.ref b5), .unset, .unset]) dc_jdk_52_method_16_code_3 rfl rfl rfl rfl ?_
  refine Wlk.aloadN (pc' := 5) (v := (.ref a)) dc_jdk_52_method_16_code_4 rfl rfl rfl ?_
  refine Wlk.iloadN (pc' := 6) (v := (0 : Int32)) dc_jdk_52_method_16_code_5 rfl rfl ?_
  refine Wlk.aloadN (pc' := 7) (v := (.ref b5)) dc_jdk_52_method_16_code_6 rfl rfl rfl ?_
  refine Wlk.iconst (pc' := 8) (v := (0 : Int32)) dc_jdk_52_method_16_code_7 rfl rfl ?_
  refine Wlk.iloadN (pc' := 9) (v := (Int32.ofNat cs.length)) dc_jdk_52_method_16_code_8 rfl rfl ?_
  have c12 := (A1.ext E10)
  refine Wlk.callS (pc' := 12) (z := (⟨"java/lang/StringUTF16", "compress", "([CI[BII)I"⟩ : MethodName)) (argsL := [(.ref a), (.int (0 : Int32)), (.ref b5), (.int (0 : Int32)), (.int (Int32.ofNat cs.length))]) (st := []) (W := 0) dc_jdk_52_method_16_code_9 (hw _ (List.mem_of_getElem? (i := 20) rfl)) (hw _ (List.mem_of_getElem? (i := 21) rfl)) (hw _ (List.mem_of_getElem? (i := 17) rfl)) (hw _ (List.mem_of_getElem? (i := 22) rfl)) (by decide) pd_0 rfl (st_cmp5 hw a b5 ka kc7 cs d h6 c12 A11 (Nat.ne_of_lt (Nat.lt_of_lt_of_le A1.lt (Nat.le_trans (Nat.le_refl _) le8))) g9 (by omega)) (by decide) rfl (by decide) (by decide) (by decide) rfl rfl (fun v13 h14 J15 q16 => ?_)
  rw [lat_all hL] at q16
  obtain ⟨rfl, K17, A18⟩ := q16
  show Wlk _ _ _ _ _ _ _ _ _ h14 1 9 12 #[.val (.ref a), .val (.int (0 : Int32)), .val (.int (Int32.ofNat cs.length)), .val (.ref b5), .unset, .unset] [(.int (Int32.ofNat cs.length))]
  refine Wlk.istore (pc' := 14) (Ls' := #[.val (.ref a), .val (.int (0 : Int32)), .val (.int (Int32.ofNat cs.length)), .val (.ref b5), .val (.int (Int32.ofNat cs.length)), .unset]) dc_jdk_52_method_16_code_12 rfl rfl rfl ?_
  refine Wlk.iload (pc' := 16) (v := (Int32.ofNat cs.length)) dc_jdk_52_method_16_code_14 rfl rfl ?_
  refine Wlk.iloadN (pc' := 17) (v := (Int32.ofNat cs.length)) dc_jdk_52_method_16_code_16 rfl rfl ?_
  refine Wlk.icT (pc' := 57) dc_jdk_52_method_16_code_17 (by decide) (by decide) (show (Int32.ofNat cs.length) = (Int32.ofNat cs.length) from rfl) ?_
  refine Wlk.aloadN (pc' := 58) (v := (.ref b5)) dc_jdk_52_method_16_code_57 rfl rfl rfl ?_
  refine Wlk.areturn (t := (.array .byte)) dc_jdk_52_method_16_code_58 rfl rfl rfl rfl (by decide) (by decide) ?_
  exact ⟨b5, kc7, rfl, (Nat.le_trans (Nat.le_refl _) le8), g9, (((Keep.refl h0 []).ext E10).trans K17 (allS (Or.inr (Nat.le_trans (Nat.le_refl _) le8)) all0)), A18⟩

set_option maxRecDepth 65536 in
set_option maxHeartbeats 40000000 in
theorem st_cod {l : Launch} {Z : State} {a0 : Array Value} (hw : ∀ d ∈ tables_1, d.before a0 Z = true) (t : Addr) (kb : ClassId) (N : Int32) (vs : List Value) (d : Value) (h0 : Heap) (B1 : Arv Z h0 t kb .byte N vs d) :
    Met l Z (⟨"java/lang/StringUTF16", "coderFromArrayLen", "([BI)B"⟩ : MethodName) jdk_52_method_15_code 2 (some .byte) false [] ({ frames := 0, cells := 0, slots := 0, locals := 0 } : Room) #[(.ref t), (.int N)] h0 (false, [], []) (fun v h J => v = some (.int 0) ∧ h0 = h) := by
  refine Met.of_goes (Ls := #[.val (.ref t), .val (.int N)]) (by first | exact plainFor_of_name (by first | (simp [plainName, overriddenIn]; done) | decide +kernel) | decide +kernel) (fun m => by first | (simp [entryFrame, mkF, argsToLocals, Value.category]; done) | rfl) rfl (fun G hGl => ?_)
  subst hGl
  refine Wlk.iloadN (pc' := 1) (v := N) dc_jdk_52_method_15_code_0 rfl rfl ?_
  refine Wlk.aloadN (pc' := 2) (v := (.ref t)) dc_jdk_52_method_15_code_1 rfl rfl rfl ?_
  refine Wlk.arraylength (pc' := 3) dc_jdk_52_method_15_code_2 B1 rfl ?_
  refine Wlk.isub (pc' := 4) dc_jdk_52_method_15_code_3 rfl ?_
  refine Wlk.bipush (pc' := 6) (v := (31 : Int32)) dc_jdk_52_method_15_code_4 (by decide) rfl ?_
  refine Wlk.iushr (pc' := 7) dc_jdk_52_method_15_code_6 rfl ?_
  refine Wlk.i2b (pc' := 8) dc_jdk_52_method_15_code_7 rfl ?_
  refine Wlk.ireturnN (t := .byte) dc_jdk_52_method_15_code_8 rfl (by simp) (by decide) (by decide) ?_
  exact ⟨by rw [Int32.sub_self]; rfl, rfl⟩

set_option maxRecDepth 65536 in
set_option maxHeartbeats 40000000 in
theorem st_ini4 {l : Launch} {Z : State} {a0 : Array Value} (hw : ∀ d ∈ tables_1, d.before a0 Z = true) (s a : Addr) (u1 u2 : Value) (ka : ClassId) (cs : List Int32) (d : Value) (h0 : Heap) (E1 : Exa Z h0 s "java/lang/String") (F1 : Fld Z h0 s "java/lang/String" "value" "[B" u1) (F2 : Fld Z h0 s "java/lang/String" "coder" "B" u2) (gs : Z.heap.size ≤ s) (A1 : Arv Z h0 a ka .char (Int32.ofNat cs.length) (vC cs) d) (hn : cs.length ≤ 9) (hp : 0 < cs.length) (hL : ∀ c ∈ cs, ¬ (255 : Int32) < c) (zc : Int32) (O2 : Sta Z Z.heap "java/lang/String" "COMPACT_STRINGS" "Z" (.int zc)) (P3 : ¬ zc = 0) :
    Met l Z (⟨"java/lang/String", "<init>", "([CIILjava/lang/Void;)V"⟩ : MethodName) jdk_42_method_149_code 6 none false [] ({ frames := 2, cells := 1, slots := 9, locals := 35 } : Room) #[(.ref s), (.ref a), (.int (0 : Int32)), (.int (Int32.ofNat cs.length)), .null] h0 (false, [], []) (fun v h J => v = none ∧ Keep h0 h [s] ∧ ∃ t, h0.size ≤ t ∧ Z.heap.size ≤ t ∧ StrL Z h s t cs) := by
  refine Met.of_goes (Ls := #[.val (.ref s), .val (.ref a), .val (.int (0 : Int32)), .val (.int (Int32.ofNat cs.length)), .val .null, .unset]) (by first | exact plainFor_of_name (by first | (simp [plainName, overriddenIn]; done) | decide +kernel) | decide +kernel) (fun m => by first | (simp [entryFrame, mkF, argsToLocals, Value.category]; done) | rfl) rfl (fun G hGl => ?_)
  subst hGl
  refine Wlk.aloadN (pc' := 1) (v := (.ref s)) dc_jdk_42_method_149_code_0 rfl rfl rfl ?_
  refine Wlk.initO (pc' := 4) (W := 0) dc_jdk_42_method_149_code_1 (hw _ (List.mem_of_getElem? (i := 11) rfl)) (hw _ (List.mem_of_getElem? (i := 12) rfl)) (hw _ (List.mem_of_getElem? (i := 13) rfl)) (by decide) rfl (by decide) rfl ?_
  refine Wlk.iloadN (pc' := 5) (v := (Int32.ofNat cs.length)) dc_jdk_42_method_149_code_4 rfl rfl ?_
  refine Wlk.ifT (pc' := 27) dc_jdk_42_method_149_code_5 (by decide) (by decide) (show ¬ ((Int32.ofNat cs.length) = (0 : Int32)) from (fun q => absurd ((i32_eq (j := 0) (by omega) (by omega)).mp q) (by omega))) ?_
  refine Wlk.getS (pc' := 30) (v := (.int zc)) dc_jdk_42_method_149_code_27 (hw _ (List.mem_of_getElem? (i := 14) rfl)) Via.refl O2 rfl ?_
  refine Wlk.ifF (pc' := 33) dc_jdk_42_method_149_code_30 (show ¬ (zc = (0 : Int32)) from P3) rfl ?_
  refine Wlk.aloadN (pc' := 34) (v := (.ref a)) dc_jdk_42_method_149_code_33 rfl rfl rfl ?_
  refine Wlk.iloadN (pc' := 35) (v := (0 : Int32)) dc_jdk_42_method_149_code_34 rfl rfl ?_
  refine Wlk.iloadN (pc' := 36) (v := (Int32.ofNat cs.length)) dc_jdk_42_method_149_code_35 rfl rfl ?_
  refine Wlk.callS (pc' := 39) (z := (⟨"java/lang/StringUTF16", "compress", "([CII)[B"⟩ : MethodName)) (argsL := [(.ref a), (.int (0 : Int32)), (.int (Int32.ofNat cs.length))]) (st := []) (W := 0) dc_jdk_42_method_149_code_36 (hw _ (List.mem_of_getElem? (i := 15) rfl)) (hw _ (List.mem_of_getElem? (i := 16) rfl)) (hw _ (List.mem_of_getElem? (i := 17) rfl)) (hw _ (List.mem_of_getElem? (i := 18) rfl)) (by decide) pd_1 rfl (st_cmp3 hw a ka cs d h0 A1 hn hL) (by decide) rfl (by decide) (by decide) (by decide) rfl rfl (fun v19 h20 J21 q22 => ?_)
  obtain ⟨t23, kb24, rfl, le25, g26, K27, B28⟩ := q22
  show Wlk _ _ _ _ _ _ _ _ _ h20 1 9 39 #[.val (.ref s), .val (.ref a), .val (.int (0 : Int32)), .val (.int (Int32.ofNat cs.length)), .val .null, .unset] [(.ref t23)]
  refine Wlk.astore (pc' := 41) (Ls' := #[.val (.ref s), .val (.ref a), .val (.int (0 : Int32)), .val (.int (Int32.ofNat cs.length)), .val .null, .val (.ref t23)]) dc_jdk_42_method_149_code_39 rfl rfl rfl rfl ?_
  refine Wlk.aloadN (pc' := 42) (v := (.ref s)) dc_jdk_42_method_149_code_41 rfl rfl rfl ?_
  refine Wlk.aload (pc' := 44) (v := (.ref t23)) dc_jdk_42_method_149_code_42 rfl rfl rfl ?_
  refine Wlk.iloadN (pc' := 45) (v := (Int32.ofNat cs.length)) dc_jdk_42_method_149_code_44 rfl rfl ?_
  refine Wlk.callS (pc' := 48) (z := (⟨"java/lang/StringUTF16", "coderFromArrayLen", "([BI)B"⟩ : MethodName)) (argsL := [(.ref t23), (.int (Int32.ofNat cs.length))]) (st := [(.ref s)]) (W := 1) dc_jdk_42_method_149_code_45 (hw _ (List.mem_of_getElem? (i := 23) rfl)) (hw _ (List.mem_of_getElem? (i := 24) rfl)) (hw _ (List.mem_of_getElem? (i := 17) rfl)) (hw _ (List.mem_of_getElem? (i := 25) rfl)) (by decide) pd_2 rfl (st_cod hw t23 kb24 (Int32.ofNat cs.length) _ _ h20 B28) (by decide) rfl (by decide) (by decide) (by decide) rfl rfl (fun v29 h30 J31 q32 => ?_)
  obtain ⟨rfl, rfl⟩ := q32
  show Wlk _ _ _ _ _ _ _ _ _ h20 1 9 48 #[.val (.ref s), .val (.ref a), .val (.int (0 : Int32)), .val (.int (Int32.ofNat cs.length)), .val .null, .val (.ref t23)] [(.int (0 : Int32)), (.ref s)]
  have c33 := (F2.keep K27 nin0)
  have c34 := (E1.keep K27)
  refine Wlk.putF (pc' := 51) (ty := .byte) dc_jdk_42_method_149_code_48 (hw _ (List.mem_of_getElem? (i := 26) rfl)) Via.refl c33 c34 (Or.inr ⟨(hw _ (List.mem_of_getElem? (i := 27) rfl)), rfl, rfl⟩) (hw _ (List.mem_of_getElem? (i := 2) rfl)) (by decide) rfl rfl gs rfl (fun h36 W35 => ?_)
  have F37 := c33.same W35
  refine Wlk.aloadN (pc' := 52) (v := (.ref s)) dc_jdk_42_method_149_code_51 rfl rfl rfl ?_
  refine Wlk.aload (pc' := 54) (v := (.ref t23)) dc_jdk_42_method_149_code_52 rfl rfl rfl ?_
  have c38 := ((F1.keep K27 nin0).other W35 (Or.inr (slot_ne (Or.inr (hw _ (List.mem_of_getElem? (i := 29) rfl))) (Or.inr (hw _ (List.mem_of_getElem? (i := 27) rfl))) (by decide) (t := (.array .byte)) (t' := .byte) (by decide) (by decide))))
  have c39 := (c34.wr W35)
  refine Wlk.putF (pc' := 57) (ty := (.array .byte)) dc_jdk_42_method_149_code_54 (hw _ (List.mem_of_getElem? (i := 28) rfl)) Via.refl c38 c39 (Or.inr ⟨(hw _ (List.mem_of_getElem? (i := 29) rfl)), rfl, rfl⟩) (hw _ (List.mem_of_getElem? (i := 2) rfl)) (by decide) rfl rfl gs rfl (fun h41 W40 => ?_)
  have F42 := c38.same W40
  refine Wlk.return_ dc_jdk_42_method_149_code_57 rfl (by decide) (by decide) ?_
  have c43 := ((B28.other W35 (Ne.symm (Nat.ne_of_lt (Nat.lt_of_lt_of_le E1.lt (Nat.le_trans (Nat.le_refl _) le25))))).other W40 (Ne.symm (Nat.ne_of_lt (Nat.lt_of_lt_of_le E1.lt (Nat.le_trans (Nat.le_refl _) le25)))))
  have c44 := (c39.wr W40)
  have c45 := (F37.other W40 (Or.inr (slot_ne (Or.inr (hw _ (List.mem_of_getElem? (i := 27) rfl))) (Or.inr (hw _ (List.mem_of_getElem? (i := 29) rfl))) (by decide) (t := .byte) (t' := (.array .byte)) (by decide) (by decide))))
  exact ⟨rfl, ((((Keep.refl h0 [s]).trans K27 all0).wr W35 (Or.inl (List.mem_of_getElem? (i := 0) rfl))).wr W40 (Or.inl (List.mem_of_getElem? (i := 0) rfl))), t23, (Nat.le_trans (Nat.le_refl _) le25), g26, c44, F42, c45, kb24, c43⟩

set_option maxRecDepth 65536 in
set_option maxHeartbeats 40000000 in
theorem st_ini1 {l : Launch} {Z : State} {a0 : Array Value} (hw : ∀ d ∈ tables_1, d.before a0 Z = true) (s a : Addr) (u1 u2 : Value) (ka : ClassId) (cs : List Int32) (d : Value) (h0 : Heap) (E1 : Exa Z h0 s "java/lang/String") (F1 : Fld Z h0 s "java/lang/String" "value" "[B" u1) (F2 : Fld Z h0 s "java/lang/String" "coder" "B" u2) (gs : Z.heap.size ≤ s) (A1 : Arv Z h0 a ka .char (Int32.ofNat cs.length) (vC cs) d) (hn : cs.length ≤ 9) (hp : 0 < cs.length) (hL : ∀ c ∈ cs, ¬ (255 : Int32) < c) (zc : Int32) (O2 : Sta Z Z.heap "java/lang/String" "COMPACT_STRINGS" "Z" (.int zc)) (P3 : ¬ zc = 0) :
    Met l Z (⟨"java/lang/String", "<init>", "([C)V"⟩ : MethodName) jdk_42_method_3_code 2 none false [] ({ frames := 3, cells := 1, slots := 9, locals := 52 } : Room) #[(.ref s), (.ref a)] h0 (false, [], []) (fun v h J => v = none ∧ Keep h0 h [s] ∧ ∃ t, h0.size ≤ t ∧ Z.heap.size ≤ t ∧ StrL Z h s t cs) := by
  refine Met.of_goes (Ls := #[.val (.ref s), .val (.ref a)]) (by first | exact plainFor_of_name (by first | (simp [plainName, overriddenIn]; done) | decide +kernel) | decide +kernel) (fun m => by first | (simp [entryFrame, mkF, argsToLocals, Value.category]; done) | rfl) rfl (fun G hGl => ?_)
  subst hGl
  refine Wlk.aloadN (pc' := 1) (v := (.ref s)) dc_jdk_42_method_3_code_0 rfl rfl rfl ?_
  refine Wlk.aloadN (pc' := 2) (v := (.ref a)) dc_jdk_42_method_3_code_1 rfl rfl rfl ?_
  refine Wlk.iconst (pc' := 3) (v := (0 : Int32)) dc_jdk_42_method_3_code_2 rfl rfl ?_
  refine Wlk.aloadN (pc' := 4) (v := (.ref a)) dc_jdk_42_method_3_code_3 rfl rfl rfl ?_
  refine Wlk.arraylength (pc' := 5) dc_jdk_42_method_3_code_4 A1 rfl ?_
  refine Wlk.aconstNull (pc' := 6) dc_jdk_42_method_3_code_5 rfl ?_
  refine Wlk.callC (pc' := 9) (a := s) (z := (⟨"java/lang/String", "<init>", "([CIILjava/lang/Void;)V"⟩ : MethodName)) (argsL := [(.ref a), (.int (0 : Int32)), (.int (Int32.ofNat cs.length)), .null]) (st := []) (W := 0) dc_jdk_42_method_3_code_6 (hw _ (List.mem_of_getElem? (i := 7) rfl)) (hw _ (List.mem_of_getElem? (i := 8) rfl)) (hw _ (List.mem_of_getElem? (i := 3) rfl)) (hw _ (List.mem_of_getElem? (i := 10) rfl)) (by decide) rfl pd_3 rfl (st_ini4 hw s a u1 u2 ka cs d h0 E1 F1 F2 gs A1 hn hp hL zc O2 P3) (by decide) rfl (by decide) (by decide) (by decide) rfl rfl (fun v46 h47 J48 q49 => ?_)
  obtain ⟨rfl, K50, t51, le52, g53, S54⟩ := q49
  show Wlk _ _ _ _ _ _ _ _ _ h47 1 9 9 #[.val (.ref s), .val (.ref a)] []
  refine Wlk.return_ dc_jdk_42_method_3_code_9 rfl (by decide) (by decide) ?_
  exact ⟨rfl, K50, t51, le52, g53, S54⟩

set_option maxRecDepth 65536 in
set_option maxHeartbeats 40000000 in
theorem st_l1eq {l : Launch} {Z : State} {a0 : Array Value} (hw : ∀ d ∈ tables_1, d.before a0 Z = true) (x y : Addr) (kx ky : ClassId) (xs ys : List Int32) (dx dy : Value) (h0 : Heap) (X1 : Arv Z h0 x kx .byte (Int32.ofNat xs.length) (vC xs) dx) (Y1 : Arv Z h0 y ky .byte (Int32.ofNat ys.length) (vC ys) dy) (hx : xs.length ≤ 10000) (hy : ys.length ≤ 10000) :
    Met l Z (⟨"java/lang/StringLatin1", "equals", "([B[B)Z"⟩ : MethodName) jdk_43_method_13_code 3 (some .boolean) false [] ({ frames := 0, cells := 0, slots := 0, locals := 0 } : Room) #[(.ref x), (.ref y)] h0 (false, [], []) (fun v h J => v = some (.int (if xs = ys then 1 else 0)) ∧ h0 = h) := by
  refine Met.of_goes (Ls := #[.val (.ref x), .val (.ref y), .unset]) (by first | exact plainFor_of_name (by first | (simp [plainName, overriddenIn]; done) | decide +kernel) | decide +kernel) (fun m => by first | (simp [entryFrame, mkF, argsToLocals, Value.category]; done) | rfl) rfl (fun G hGl => ?_)
  subst hGl
  refine Wlk.aloadN (pc' := 1) (v := (.ref x)) dc_jdk_43_method_13_code_0 rfl rfl rfl ?_
  refine Wlk.arraylength (pc' := 2) dc_jdk_43_method_13_code_1 X1 rfl ?_
  refine Wlk.aloadN (pc' := 3) (v := (.ref y)) dc_jdk_43_method_13_code_2 rfl rfl rfl ?_
  refine Wlk.arraylength (pc' := 4) dc_jdk_43_method_13_code_3 Y1 rfl ?_
  refine Wlk.ic_ (pcT := 34) (pcF := 7) dc_jdk_43_method_13_code_4 (by decide) (by decide) rfl (fun (hc55 : ¬ ((Int32.ofNat xs.length) = (Int32.ofNat ys.length))) => ?_) (fun (hc55 : (Int32.ofNat xs.length) = (Int32.ofNat ys.length)) => ?_)
  · skip
    refine Wlk.iconst (pc' := 35) (v := (0 : Int32)) dc_jdk_43_method_13_code_34 rfl rfl ?_
    refine Wlk.ireturnN (t := .boolean) dc_jdk_43_method_13_code_35 rfl (by simp) (by decide) (by decide) ?_
    exact ⟨by rw [if_neg (fun q => hc55 (by rw [q]))]; rfl, rfl⟩
  · skip
    have hlen : xs.length = ys.length := (i32_eq (by omega) (by omega)).mp hc55
    refine Wlk.iconst (pc' := 8) (v := (0 : Int32)) dc_jdk_43_method_13_code_7 rfl rfl ?_
    refine Wlk.istoreN (pc' := 9) (Ls' := #[.val (.ref x), .val (.ref y), .val (.int (0 : Int32))]) dc_jdk_43_method_13_code_8 rfl rfl rfl ?_
    have loop : ∀ (r1 r2 pre : List Int32), xs = pre ++ r1 → ys = pre ++ r2 → Wlk G ({ frames := 0, cells := 0, slots := 0, locals := 0 } : Room) Z (⟨"java/lang/StringLatin1", "equals", "([B[B)Z"⟩ : MethodName) jdk_43_method_13_code (some .boolean) false (false, [], []) (fun v h J => v = some (.int (if xs = ys then 1 else 0)) ∧ h0 = h) h0 0 0 9 #[.val (.ref x), .val (.ref y), .val (.int (Int32.ofNat pre.length))] [] := by
      intro r1
      induction r1 with
      | nil =>
        intro r2 pre e1 e2
        have h2 : r2 = [] := by
          have := hlen
          rw [e1, e2] at this
          simp at this
          exact this
        subst h2
        have exy : xs = ys := e1.trans e2.symm
        rw [List.append_nil] at e1
        subst e1
        refine Wlk.iloadN (pc' := 10) (v := (Int32.ofNat xs.length)) dc_jdk_43_method_13_code_9 rfl rfl ?_
        refine Wlk.aloadN (pc' := 11) (v := (.ref x)) dc_jdk_43_method_13_code_10 rfl rfl rfl ?_
        refine Wlk.arraylength (pc' := 12) dc_jdk_43_method_13_code_11 X1 rfl ?_
        refine Wlk.icT (pc' := 32) dc_jdk_43_method_13_code_12 (by decide) (by decide) (show ¬ ((Int32.ofNat xs.length) < (Int32.ofNat xs.length)) from (fun q => absurd ((i32_lt (by omega) (by omega)).mp q) (Nat.lt_irrefl _))) ?_
        refine Wlk.iconst (pc' := 33) (v := (1 : Int32)) dc_jdk_43_method_13_code_32 rfl rfl ?_
        refine Wlk.ireturnN (t := .boolean) dc_jdk_43_method_13_code_33 rfl (by simp) (by decide) (by decide) ?_
        exact ⟨by rw [if_pos exy]; rfl, rfl⟩
      | cons u r1 ih =>
        intro r2 pre e1 e2
        have hl : xs.length = pre.length + (r1.length + 1) := by rw [e1]; simp
        cases r2 with
        | nil =>
          exfalso
          have := hlen
          rw [hl, e2] at this
          simp at this
        | cons v r2 =>
          have hl2 : ys.length = pre.length + (r2.length + 1) := by rw [e2]; simp
          refine Wlk.iloadN (pc' := 10) (v := (Int32.ofNat pre.length)) dc_jdk_43_method_13_code_9 rfl rfl ?_
          refine Wlk.aloadN (pc' := 11) (v := (.ref x)) dc_jdk_43_method_13_code_10 rfl rfl rfl ?_
          refine Wlk.arraylength (pc' := 12) dc_jdk_43_method_13_code_11 X1 rfl ?_
          refine Wlk.icF (pc' := 15) dc_jdk_43_method_13_code_12 (show (Int32.ofNat pre.length) < (Int32.ofNat xs.length) from ((i32_lt (by omega) (by omega)).mpr (by omega))) rfl ?_
          refine Wlk.aloadN (pc' := 16) (v := (.ref x)) dc_jdk_43_method_13_code_15 rfl rfl rfl ?_
          refine Wlk.iloadN (pc' := 17) (v := (Int32.ofNat pre.length)) dc_jdk_43_method_13_code_16 rfl rfl ?_
          refine Wlk.baload (pc' := 18) (v := (.int u)) dc_jdk_43_method_13_code_17 X1 ⟨i32_nn (by omega), (i32_lt (by omega) (by omega)).mpr (by omega)⟩ (by rw [i32_cl (by omega), e1]; simp [vC]) rfl ?_
          refine Wlk.aloadN (pc' := 19) (v := (.ref y)) dc_jdk_43_method_13_code_18 rfl rfl rfl ?_
          refine Wlk.iloadN (pc' := 20) (v := (Int32.ofNat pre.length)) dc_jdk_43_method_13_code_19 rfl rfl ?_
          refine Wlk.baload (pc' := 21) (v := (.int v)) dc_jdk_43_method_13_code_20 Y1 ⟨i32_nn (by omega), (i32_lt (by omega) (by omega)).mpr (by omega)⟩ (by rw [i32_cl (by omega), e2]; simp [vC]) rfl ?_
          refine Wlk.ic_ (pcT := 26) (pcF := 24) dc_jdk_43_method_13_code_21 (by decide) (by decide) rfl (fun (hc56 : u = v) => ?_) (fun (hc56 : ¬ (u = v)) => ?_)
          · skip
            refine Wlk.iinc (pc' := 29) (v := (1 : Int32)) (x := (Int32.ofNat pre.length)) (Ls' := #[.val (.ref x), .val (.ref y), .val (.int ((Int32.ofNat pre.length) + (1 : Int32)))]) dc_jdk_43_method_13_code_26 (by decide) rfl rfl rfl rfl ?_
            refine Wlk.goto (pc' := 9) dc_jdk_43_method_13_code_29 (by decide) (by decide) ?_
            have e3 : Int32.ofNat pre.length + 1 = Int32.ofNat (pre ++ [u]).length := by rw [i32_succ]; simp
            rw [e3]
            exact ih r2 (pre ++ [u]) (by rw [e1]; simp) (by rw [e2, hc56]; simp)
          · skip
            refine Wlk.iconst (pc' := 25) (v := (0 : Int32)) dc_jdk_43_method_13_code_24 rfl rfl ?_
            refine Wlk.ireturnN (t := .boolean) dc_jdk_43_method_13_code_25 rfl (by simp) (by decide) (by decide) ?_
            exact ⟨by rw [if_neg (fun q => hc56 (by rw [e1, e2] at q; exact (List.cons.inj (List.append_cancel_left q)).1))]; rfl, rfl⟩
    exact loop xs ys [] rfl rfl

set_option maxRecDepth 65536 in
set_option maxHeartbeats 40000000 in
theorem st_eqA {l : Launch} {Z : State} {a0 : Array Value} (hw : ∀ d ∈ tables_1, d.before a0 Z = true) (c s tc t : Addr) (ds cs : List Int32) (h0 : Heap) (S1 : StrL Z h0 c tc ds) (S2 : StrA Z h0 s t cs) (zc : Int32) (O2 : Sta Z Z.heap "java/lang/String" "COMPACT_STRINGS" "Z" (.int zc)) (P3 : ¬ zc = 0) (hds : ∀ x ∈ ds, ¬ x < 0 ∧ ¬ (255 : Int32) < x) (hcs : ∀ x ∈ cs, ¬ x < 0) (ld : ds.length ≤ 4000) (lc : cs.length ≤ 4000) :
    Met l Z (⟨"java/lang/String", "equals", "(Ljava/lang/Object;)Z"⟩ : MethodName) jdk_42_method_66_code 3 (some .boolean) false [] ({ frames := 1, cells := 0, slots := 0, locals := 14 } : Room) #[(.ref c), (.ref s)] h0 (false, [], []) (fun v h J => v = some (.int (if cs = ds then (1 : Int32) else 0)) ∧ h0 = h) := by
  refine Met.of_goes (Ls := #[.val (.ref c), .val (.ref s), .unset]) (by first | exact plainFor_of_name (by first | (simp [plainName, overriddenIn]; done) | decide +kernel) | decide +kernel) (fun m => by first | (simp [entryFrame, mkF, argsToLocals, Value.category]; done) | rfl) rfl (fun G hGl => ?_)
  subst hGl
  refine Wlk.aloadN (pc' := 1) (v := (.ref c)) dc_jdk_42_method_66_code_0 rfl rfl rfl ?_
  refine Wlk.aloadN (pc' := 2) (v := (.ref s)) dc_jdk_42_method_66_code_1 rfl rfl rfl ?_
  by_cases hcs2 : c = s
  · skip
    refine Wlk.acmp (pc' := 5) (same := true) dc_jdk_42_method_66_code_2 rfl rfl (decide_eq_true (congrArg Value.ref hcs2)) (by decide) (by decide) ?_
    refine Wlk.iconst (pc' := 6) (v := (1 : Int32)) dc_jdk_42_method_66_code_5 rfl rfl ?_
    refine Wlk.ireturnN (t := .boolean) dc_jdk_42_method_66_code_6 rfl (by simp) (by decide) (by decide) ?_
    subst hcs2
    have ecs : cs = ds := by
      rcases S2 with ⟨hlat, S⟩ | ⟨hlat, -, -, q, -⟩
      · exact vL_inj (fun x hx => ⟨hcs x hx, lat_mem hlat x hx⟩) hds (S.inj S1 (by omega) (by omega))
      · have := Fld.fun1 q S1.2.2.1
        injection this with this
        exact absurd this (by decide)
    exact ⟨by rw [if_pos ecs]; rfl, rfl⟩
  · skip
    refine Wlk.acmp (pc' := 7) (same := false) dc_jdk_42_method_66_code_2 rfl rfl (decide_eq_false fun q => hcs2 (Value.ref.inj q)) (by decide) (by decide) ?_
    refine Wlk.aloadN (pc' := 8) (v := (.ref s)) dc_jdk_42_method_66_code_7 rfl rfl rfl ?_
    refine Wlk.instY (pc' := 11) dc_jdk_42_method_66_code_8 (hw _ (List.mem_of_getElem? (i := 65) rfl)) (Ins.self S2.exa) rfl ?_
    refine Wlk.ifF (pc' := 14) dc_jdk_42_method_66_code_11 (show ¬ ((1 : Int32) = (0 : Int32)) from by decide) rfl ?_
    refine Wlk.aloadN (pc' := 15) (v := (.ref s)) dc_jdk_42_method_66_code_14 rfl rfl rfl ?_
    refine Wlk.castY (pc' := 18) dc_jdk_42_method_66_code_15 (hw _ (List.mem_of_getElem? (i := 65) rfl)) (Ins.self S2.exa) rfl ?_
    refine Wlk.astoreN (pc' := 19) (Ls' := #[.val (.ref c), .val (.ref s), .val (.ref s)]) dc_jdk_42_method_66_code_18 rfl rfl rfl rfl ?_
    refine Wlk.getS (pc' := 22) (v := (.int zc)) dc_jdk_42_method_66_code_19 (hw _ (List.mem_of_getElem? (i := 14) rfl)) Via.refl O2 rfl ?_
    refine Wlk.ifF (pc' := 25) dc_jdk_42_method_66_code_22 (show ¬ (zc = (0 : Int32)) from P3) rfl ?_
    obtain ⟨-, Vc, Cc, kc, Ac⟩ := S1
    rcases S2 with ⟨hlat, S⟩ | ⟨hlat, S⟩
    · skip
      obtain ⟨-, Vs, Cs, ks, As⟩ := S
      have Ac' : Arv Z h0 tc kc .byte (Int32.ofNat (ds.map bL).length) (vC (ds.map bL)) (.int 0) := by rw [List.length_map, ← vL_vC]; exact Ac
      have As' : Arv Z h0 t ks .byte (Int32.ofNat (cs.map bL).length) (vC (cs.map bL)) (.int 0) := by rw [List.length_map, ← vL_vC]; exact As
      refine Wlk.aloadN (pc' := 26) (v := (.ref c)) dc_jdk_42_method_66_code_25 rfl rfl rfl ?_
      refine Wlk.getF (pc' := 29) (v := (.int (0 : Int32))) dc_jdk_42_method_66_code_26 (hw _ (List.mem_of_getElem? (i := 26) rfl)) Via.refl Cc rfl ?_
      refine Wlk.aloadN (pc' := 30) (v := (.ref s)) dc_jdk_42_method_66_code_29 rfl rfl rfl ?_
      refine Wlk.getF (pc' := 33) (v := (.int (0 : Int32))) dc_jdk_42_method_66_code_30 (hw _ (List.mem_of_getElem? (i := 26) rfl)) Via.refl Cs rfl ?_
      refine Wlk.icF (pc' := 36) dc_jdk_42_method_66_code_33 (show (0 : Int32) = (0 : Int32) from by decide) rfl ?_
      refine Wlk.aloadN (pc' := 37) (v := (.ref c)) dc_jdk_42_method_66_code_36 rfl rfl rfl ?_
      refine Wlk.getF (pc' := 40) (v := (.ref tc)) dc_jdk_42_method_66_code_37 (hw _ (List.mem_of_getElem? (i := 28) rfl)) Via.refl Vc rfl ?_
      refine Wlk.aloadN (pc' := 41) (v := (.ref s)) dc_jdk_42_method_66_code_40 rfl rfl rfl ?_
      refine Wlk.getF (pc' := 44) (v := (.ref t)) dc_jdk_42_method_66_code_41 (hw _ (List.mem_of_getElem? (i := 28) rfl)) Via.refl Vs rfl ?_
      refine Wlk.callS (pc' := 47) (z := (⟨"java/lang/StringLatin1", "equals", "([B[B)Z"⟩ : MethodName)) (argsL := [(.ref tc), (.ref t)]) (st := []) (W := 0) dc_jdk_42_method_66_code_44 (hw _ (List.mem_of_getElem? (i := 66) rfl)) (hw _ (List.mem_of_getElem? (i := 67) rfl)) (hw _ (List.mem_of_getElem? (i := 68) rfl)) (hw _ (List.mem_of_getElem? (i := 69) rfl)) (by decide) pd_4 rfl (st_l1eq hw tc t kc ks (ds.map bL) (cs.map bL) _ _ h0 Ac' As' (by simpa using (by omega : ds.length ≤ 10000)) (by simpa using (by omega : cs.length ≤ 10000))) (by decide) rfl (by decide) (by decide) (by decide) rfl rfl (fun v57 h58 J59 q60 => ?_)
      obtain ⟨rfl, rfl⟩ := q60
      show Wlk _ _ _ _ _ _ _ _ _ h0 0 0 47 #[.val (.ref c), .val (.ref s), .val (.ref s)] [(.int (if ds.map bL = cs.map bL then (1 : Int32) else 0))]
      refine Wlk.if_ (pcT := 54) (pcF := 50) dc_jdk_42_method_66_code_47 (by decide) (by decide) rfl (fun (hc61 : (if ds.map bL = cs.map bL then (1 : Int32) else 0) = (0 : Int32)) => ?_) (fun (hc61 : ¬ ((if ds.map bL = cs.map bL then (1 : Int32) else 0) = (0 : Int32))) => ?_)
      · skip
        refine Wlk.iconst (pc' := 55) (v := (0 : Int32)) dc_jdk_42_method_66_code_54 rfl rfl ?_
        refine Wlk.ireturnN (t := .boolean) dc_jdk_42_method_66_code_55 rfl (by simp) (by decide) (by decide) ?_
        refine ⟨?_, rfl⟩
        by_cases ecs : cs = ds
        · subst ecs; simp_all [nar]
        · have ne : ¬ (ds.map bL = cs.map bL) := fun q => ecs (vL_inj (fun x hx => ⟨hcs x hx, lat_mem hlat x hx⟩) hds q.symm)
          simp_all [nar]
      · skip
        refine Wlk.iconst (pc' := 51) (v := (1 : Int32)) dc_jdk_42_method_66_code_50 rfl rfl ?_
        refine Wlk.goto (pc' := 55) dc_jdk_42_method_66_code_51 (by decide) (by decide) ?_
        refine Wlk.ireturnN (t := .boolean) dc_jdk_42_method_66_code_55 rfl (by simp) (by decide) (by decide) ?_
        refine ⟨?_, rfl⟩
        by_cases ecs : cs = ds
        · subst ecs; simp_all [nar]
        · have ne : ¬ (ds.map bL = cs.map bL) := fun q => ecs (vL_inj (fun x hx => ⟨hcs x hx, lat_mem hlat x hx⟩) hds q.symm)
          simp_all [nar]
    · skip
      obtain ⟨-, Vs, Cs, -⟩ := S
      refine Wlk.aloadN (pc' := 26) (v := (.ref c)) dc_jdk_42_method_66_code_25 rfl rfl rfl ?_
      refine Wlk.getF (pc' := 29) (v := (.int (0 : Int32))) dc_jdk_42_method_66_code_26 (hw _ (List.mem_of_getElem? (i := 26) rfl)) Via.refl Cc rfl ?_
      refine Wlk.aloadN (pc' := 30) (v := (.ref s)) dc_jdk_42_method_66_code_29 rfl rfl rfl ?_
      refine Wlk.getF (pc' := 33) (v := (.int (1 : Int32))) dc_jdk_42_method_66_code_30 (hw _ (List.mem_of_getElem? (i := 26) rfl)) Via.refl Cs rfl ?_
      refine Wlk.icT (pc' := 54) dc_jdk_42_method_66_code_33 (by decide) (by decide) (show ¬ ((0 : Int32) = (1 : Int32)) from by decide) ?_
      refine Wlk.iconst (pc' := 55) (v := (0 : Int32)) dc_jdk_42_method_66_code_54 rfl rfl ?_
      refine Wlk.ireturnN (t := .boolean) dc_jdk_42_method_66_code_55 rfl (by simp) (by decide) (by decide) ?_
      exact ⟨by rw [if_neg (fun (q : cs = ds) => hlat (lat_all (fun x hx => (hds x (q ▸ hx)).2)))]; rfl, rfl⟩

set_option maxRecDepth 65536 in
set_option maxHeartbeats 40000000 in
theorem rm_rnn {l : Launch} {Z : State} {a0 : Array Value} (hw : ∀ d ∈ tables_1, d.before a0 Z = true) (s : Addr) (m : Addr) (h0 : Heap)  :
    Met l Z (⟨"java/util/Objects", "requireNonNull", "(Ljava/lang/Object;Ljava/lang/String;)Ljava/lang/Object;"⟩ : MethodName) jdk_31_method_11_code 2 (some (.object "java/lang/Object")) false [] ({ frames := 0, cells := 0, slots := 0, locals := 0 } : Room) #[(.ref s), (.ref m)] h0 (false, [], []) (fun v h J' => v = some (.ref s) ∧ h0 = h) := by
  refine Met.of_goes (Ls := #[.val (.ref s), .val (.ref m)]) (by first | exact plainFor_of_name (by first | (simp [plainName, overriddenIn]; done) | decide +kernel) | decide +kernel) (fun m => by first | (simp [entryFrame, mkF, argsToLocals, Value.category]; done) | rfl) rfl (fun G hGl => ?_)
  subst hGl
  refine Wlk.aloadN (pc' := 1) (v := (.ref s)) dc_jdk_31_method_11_code_0 rfl rfl rfl ?_
  refine Wlk.ifnonnullT (pc' := 13) dc_jdk_31_method_11_code_1 (by decide) (by decide) ?_
  refine Wlk.aloadN (pc' := 14) (v := (.ref s)) dc_jdk_31_method_11_code_13 rfl rfl rfl ?_
  refine Wlk.areturn (t := (.object "java/lang/Object")) dc_jdk_31_method_11_code_14 rfl rfl rfl rfl (by decide) (by decide) ?_
  exact ⟨rfl, rfl⟩

set_option maxRecDepth 65536 in
set_option maxHeartbeats 40000000 in
theorem rm_vals {l : Launch} {Z : State} {a0 : Array Value} (hw : ∀ d ∈ tables_1, d.before a0 Z = true) (va : Addr) (kv : ClassId) (sg : Addr) (pt : Addr) (h0 : Heap) (q0_Sta : Sta Z Z.heap "com/example/vesta/vesta/model/BeanScope" "$VALUES" "[Lcom/example/vesta/vesta/model/BeanScope;" (.ref va)) (V0 : Arv Z Z.heap va kv (.object "com/example/vesta/vesta/model/BeanScope") 2 [(.ref sg), (.ref pt)] .null) (VE : Exa Z Z.heap va "[Lcom/example/vesta/vesta/model/BeanScope;") (VF : ∀ cl : Cell, Z.heap[va]? = some cl → FitC Z cl) :
    Met l Z (⟨"com/example/vesta/vesta/model/BeanScope", "values", "()[Lcom/example/vesta/vesta/model/BeanScope;"⟩ : MethodName) prog_27_method_1_code 0 (some (.array (.object "com/example/vesta/vesta/model/BeanScope"))) false [] ({ frames := 1, cells := 1, slots := 2, locals := 14 } : Room) #[] h0 (false, [], []) (fun v h J' => ∃ (b : Addr), v = some (.ref b) ∧ h0.size ≤ b ∧ Z.heap.size ≤ b ∧ Keep h0 h [] ∧ Arv Z h b kv (.object "com/example/vesta/vesta/model/BeanScope") (2 : Int32) [(.ref sg), (.ref pt)] .null) := by
  refine Met.of_goes (Ls := #[]) (by first | exact plainFor_of_name (by first | (simp [plainName, overriddenIn]; done) | decide +kernel) | decide +kernel) (fun m => by first | (simp [entryFrame, mkF, argsToLocals, Value.category]; done) | rfl) rfl (fun G hGl => ?_)
  subst hGl
  refine Wlk.ext0 (fun hE62 => ?_)
  have V1 := V0.ext hE62
  have VE1 := VE.ext hE62
  refine Wlk.getS (pc' := 3) (v := (.ref va)) dc_prog_27_method_1_code_0 (hw _ (List.mem_of_getElem? (i := 44) rfl)) Via.refl q0_Sta rfl ?_
  refine Wlk.cloneV (pc' := 6) (ad := "[Lcom/example/vesta/vesta/model/BeanScope;") (cap := 2) (W := 0) dc_prog_27_method_1_code_3 (hw _ (List.mem_of_getElem? (i := 46) rfl)) (hw _ (List.mem_of_getElem? (i := 47) rfl)) (hw _ (List.mem_of_getElem? (i := 51) rfl)) (hw _ (List.mem_of_getElem? (i := 49) rfl)) (hw _ (List.mem_of_getElem? (i := 50) rfl)) (hw _ (List.mem_of_getElem? (i := 52) rfl)) V1 VE1 (fun cl q => VF cl (by obtain ⟨c0, A0, -⟩ := V0; have := hE62.2 _ _ A0.1; rw [q] at this; injection this with this; subst this; exact A0.1)) (by decide) rfl (by decide) (by decide) (by decide) (by decide) rfl (fun b63 h64 le65 g66 E67 A68 E69 => ?_)
  refine Wlk.castY (pc' := 9) dc_prog_27_method_1_code_6 (hw _ (List.mem_of_getElem? (i := 56) rfl)) (Ins.self E69) rfl ?_
  refine Wlk.areturn (t := (.array (.object "com/example/vesta/vesta/model/BeanScope"))) dc_prog_27_method_1_code_9 rfl rfl rfl rfl (by decide) (by decide) ?_
  exact ⟨b63, rfl, (Nat.le_trans (Nat.le_refl _) le65), g66, ((Keep.refl h0 []).ext E67), A68⟩

set_option maxRecDepth 65536 in
set_option maxHeartbeats 40000000 in
theorem rm_namedS {l : Launch} {Z : State} {a0 : Array Value} (hw : ∀ d ∈ tables_1, d.before a0 Z = true) (s : Addr) (t : Addr) (va : Addr) (sg : Addr) (pt : Addr) (gs : Addr) (tg : Addr) (ps : Addr) (tp : Addr) (kv : ClassId) (zc : Int32) (h0 : Heap) (q0_S : StrL Z h0 s t sgL) (q1_Sta : Sta Z Z.heap "com/example/vesta/vesta/model/BeanScope" "$VALUES" "[Lcom/example/vesta/vesta/model/BeanScope;" (.ref va)) (V0 : Arv Z Z.heap va kv (.object "com/example/vesta/vesta/model/BeanScope") 2 [(.ref sg), (.ref pt)] .null) (VE : Exa Z Z.heap va "[Lcom/example/vesta/vesta/model/BeanScope;") (VF : ∀ cl : Cell, Z.heap[va]? = some cl → FitC Z cl) (q5_Sta : Sta Z Z.heap "java/lang/String" "COMPACT_STRINGS" "Z" (.int zc)) (P3 : ¬ zc = 0) (G1 : Fld Z Z.heap sg "com/example/vesta/vesta/model/BeanScope" "written" "Ljava/lang/String;" (.ref gs)) (G2 : StrL Z Z.heap gs tg sgL) (G3 : Fld Z Z.heap pt "com/example/vesta/vesta/model/BeanScope" "written" "Ljava/lang/String;" (.ref ps)) (G4 : StrL Z Z.heap ps tp ptL) (wS : ∀ a ∈ Bundle.stringAtoms, a.before a0 Z = true) :
    Met l Z (⟨"com/example/vesta/vesta/model/BeanScope", "named", "(Ljava/lang/String;)Lcom/example/vesta/vesta/model/BeanScope;"⟩ : MethodName) prog_27_method_4_code 6 (some (.object "com/example/vesta/vesta/model/BeanScope")) true [] ({ frames := 2, cells := 3, slots := 22, locals := 28 } : Room) #[(.ref s)] h0 (false, [], []) (fun v h J' => v = some (.ref sg) ∧ Keep h0 h [] ∧ J' = (false, [], [])) := by
  refine Met.of_goes (Ls := #[.val (.ref s), .unset, .unset, .unset, .unset, .unset]) (by first | exact plainFor_of_name (by first | (simp [plainName, overriddenIn]; done) | decide +kernel) | decide +kernel) (fun m => by first | (simp [entryFrame, mkF, argsToLocals, Value.category]; done) | rfl) rfl (fun G hGl => ?_)
  subst hGl
  have O2 := q5_Sta
  refine Wlk.aloadN (pc' := 1) (v := (.ref s)) dc_prog_27_method_4_code_0 rfl rfl rfl ?_
  refine Wlk.ldcAny (pc' := 3) (text := "name") (nn := 16) (J' := (false, [], [])) rfl dc_prog_27_method_4_code_1 (hw _ (List.mem_of_getElem? (i := 34) rfl)) wS (by decide) (by decide) (by decide) (by decide) rfl (fun ca70 h71 E72 => ?_)
  refine Wlk.callS (pc' := 6) (z := (⟨"java/util/Objects", "requireNonNull", "(Ljava/lang/Object;Ljava/lang/String;)Ljava/lang/Object;"⟩ : MethodName)) (argsL := [(.ref s), (.ref ca70)]) (st := []) (W := 0) dc_prog_27_method_4_code_3 (hw _ (List.mem_of_getElem? (i := 37) rfl)) (hw _ (List.mem_of_getElem? (i := 38) rfl)) (hw _ (List.mem_of_getElem? (i := 39) rfl)) (hw _ (List.mem_of_getElem? (i := 40) rfl)) (by decide) pd_5 rfl (rm_rnn hw s ca70 h71 ) (by decide) rfl (by decide) (by decide) (by decide) rfl rfl (fun v73 h74 J75 q76 => ?_)
  obtain ⟨rfl, rfl⟩ := q76
  show Wlk _ _ _ _ _ _ _ _ _ h71 2 20 6 #[.val (.ref s), .unset, .unset, .unset, .unset, .unset] [(.ref s)]
  refine Wlk.pop (pc' := 7) dc_prog_27_method_4_code_6 rfl rfl ?_
  refine Wlk.aconstNull (pc' := 8) dc_prog_27_method_4_code_7 rfl ?_
  refine Wlk.astoreN (pc' := 9) (Ls' := #[.val (.ref s), .val .null, .unset, .unset, .unset, .unset]) dc_prog_27_method_4_code_8 rfl rfl rfl rfl ?_
  refine Wlk.callS (pc' := 12) (z := (⟨"com/example/vesta/vesta/model/BeanScope", "values", "()[Lcom/example/vesta/vesta/model/BeanScope;"⟩ : MethodName)) (argsL := []) (st := []) (W := 0) dc_prog_27_method_4_code_9 (hw _ (List.mem_of_getElem? (i := 41) rfl)) (hw _ (List.mem_of_getElem? (i := 42) rfl)) (hw _ (List.mem_of_getElem? (i := 32) rfl)) (hw _ (List.mem_of_getElem? (i := 43) rfl)) (by decide) pd_6 rfl (rm_vals hw va _ _ _ h71 q1_Sta V0 VE VF) (by decide) rfl (by decide) (by decide) (by decide) rfl rfl (fun v77 h78 J79 q80 => ?_)
  obtain ⟨b81, rfl, le82, g83, K84, n85⟩ := q80
  show Wlk _ _ _ _ _ _ _ _ _ h78 3 22 12 #[.val (.ref s), .val .null, .unset, .unset, .unset, .unset] [(.ref b81)]
  refine Wlk.ext0 (fun hE86 => ?_)
  have g1 := G1.ext hE86
  have g2 := G2.ext hE86
  have g3 := G3.ext hE86
  have g4 := G4.ext hE86
  refine Wlk.astoreN (pc' := 13) (Ls' := #[.val (.ref s), .val .null, .val (.ref b81), .unset, .unset, .unset]) dc_prog_27_method_4_code_12 rfl rfl rfl rfl ?_
  refine Wlk.aloadN (pc' := 14) (v := (.ref b81)) dc_prog_27_method_4_code_13 rfl rfl rfl ?_
  refine Wlk.arraylength (pc' := 15) dc_prog_27_method_4_code_14 n85 rfl ?_
  refine Wlk.istoreN (pc' := 16) (Ls' := #[.val (.ref s), .val .null, .val (.ref b81), .val (.int (2 : Int32)), .unset, .unset]) dc_prog_27_method_4_code_15 rfl rfl rfl ?_
  refine Wlk.iconst (pc' := 17) (v := (0 : Int32)) dc_prog_27_method_4_code_16 rfl rfl ?_
  refine Wlk.istore (pc' := 19) (Ls' := #[.val (.ref s), .val .null, .val (.ref b81), .val (.int (2 : Int32)), .val (.int (0 : Int32)), .unset]) dc_prog_27_method_4_code_17 rfl rfl rfl ?_
  refine Wlk.iload (pc' := 21) (v := (0 : Int32)) dc_prog_27_method_4_code_19 rfl rfl ?_
  refine Wlk.iloadN (pc' := 22) (v := (2 : Int32)) dc_prog_27_method_4_code_21 rfl rfl ?_
  refine Wlk.icF (pc' := 25) dc_prog_27_method_4_code_22 (show (0 : Int32) < (2 : Int32) from by decide) rfl ?_
  refine Wlk.aloadN (pc' := 26) (v := (.ref b81)) dc_prog_27_method_4_code_25 rfl rfl rfl ?_
  refine Wlk.iload (pc' := 28) (v := (0 : Int32)) dc_prog_27_method_4_code_26 rfl rfl ?_
  refine Wlk.aaload (pc' := 29) (v := (.ref sg)) dc_prog_27_method_4_code_28 n85 rfl ⟨by decide, by decide⟩ rfl rfl ?_
  refine Wlk.astore (pc' := 31) (Ls' := #[.val (.ref s), .val .null, .val (.ref b81), .val (.int (2 : Int32)), .val (.int (0 : Int32)), .val (.ref sg)]) dc_prog_27_method_4_code_29 rfl rfl rfl rfl ?_
  refine Wlk.aload (pc' := 33) (v := (.ref sg)) dc_prog_27_method_4_code_31 rfl rfl rfl ?_
  refine Wlk.getF (pc' := 36) (v := (.ref gs)) dc_prog_27_method_4_code_33 (hw _ (List.mem_of_getElem? (i := 58) rfl)) Via.refl g1 rfl ?_
  refine Wlk.aloadN (pc' := 37) (v := (.ref s)) dc_prog_27_method_4_code_36 rfl rfl rfl ?_
  have c87 := ((q0_S.ext E72).keep K84 nin0 nin0)
  refine Wlk.callV (pc' := 40) (a := gs) (x := (⟨"java/lang/String", "equals", "(Ljava/lang/Object;)Z"⟩ : MethodName)) (C := "java/lang/String") (z := (⟨"java/lang/String", "equals", "(Ljava/lang/Object;)Z"⟩ : MethodName)) (argsL := [(.ref s)]) (st := []) (W := 0) dc_prog_27_method_4_code_37 (hw _ (List.mem_of_getElem? (i := 60) rfl)) (hw _ (List.mem_of_getElem? (i := 61) rfl)) (fun s q => notFace_of_selects (args := #[]) (mvT q (hw _ (List.mem_of_getElem? (i := 63) rfl)))) (hw _ (List.mem_of_getElem? (i := 63) rfl)) (hw _ (List.mem_of_getElem? (i := 62) rfl)) g2.1 (hw _ (List.mem_of_getElem? (i := 3) rfl)) (hw _ (List.mem_of_getElem? (i := 64) rfl)) (by decide) pd_7 rfl (st_eqA hw gs s tg t sgL sgL h78 g2 (c87.any (lat_all (fun x hx => (own_sg x hx).2))) zc O2 P3 own_sg (fun x hx => (own_sg x hx).1) (by first | assumption | exact Nat.le_of_ble_eq_true rfl) (by first | assumption | exact Nat.le_of_ble_eq_true rfl)) (by decide) rfl (by decide) (by decide) (by decide) rfl rfl (fun v88 h89 J90 q91 => ?_)
  obtain ⟨rfl, rfl⟩ := q91
  show Wlk _ _ _ _ _ _ _ _ _ h78 3 22 40 #[.val (.ref s), .val .null, .val (.ref b81), .val (.int (2 : Int32)), .val (.int (0 : Int32)), .val (.ref sg)] [(.int (if sgL = sgL then (1 : Int32) else 0))]
  refine Wlk.ifF (pc' := 43) dc_prog_27_method_4_code_40 (show ¬ ((if sgL = sgL then (1 : Int32) else 0) = (0 : Int32)) from (by rw [if_pos rfl]; decide)) rfl ?_
  refine Wlk.aload (pc' := 45) (v := (.ref sg)) dc_prog_27_method_4_code_43 rfl rfl rfl ?_
  refine Wlk.astoreN (pc' := 46) (Ls' := #[.val (.ref s), .val (.ref sg), .val (.ref b81), .val (.int (2 : Int32)), .val (.int (0 : Int32)), .val (.ref sg)]) dc_prog_27_method_4_code_45 rfl rfl rfl rfl ?_
  refine Wlk.goto (pc' := 55) dc_prog_27_method_4_code_46 (by decide) (by decide) ?_
  refine Wlk.aloadN (pc' := 56) (v := (.ref sg)) dc_prog_27_method_4_code_55 rfl rfl rfl ?_
  refine Wlk.ifnonnullT (pc' := 73) dc_prog_27_method_4_code_56 (by decide) (by decide) ?_
  refine Wlk.aloadN (pc' := 74) (v := (.ref sg)) dc_prog_27_method_4_code_73 rfl rfl rfl ?_
  refine Wlk.areturn (t := (.object "com/example/vesta/vesta/model/BeanScope")) dc_prog_27_method_4_code_74 rfl rfl rfl rfl (by decide) (by decide) ?_
  exact ⟨rfl, (((Keep.refl h0 []).ext E72).trans K84 all0), rfl⟩

set_option maxRecDepth 65536 in
set_option maxHeartbeats 40000000 in
theorem rm_namedP {l : Launch} {Z : State} {a0 : Array Value} (hw : ∀ d ∈ tables_1, d.before a0 Z = true) (s : Addr) (t : Addr) (va : Addr) (sg : Addr) (pt : Addr) (gs : Addr) (tg : Addr) (ps : Addr) (tp : Addr) (kv : ClassId) (zc : Int32) (h0 : Heap) (q0_S : StrL Z h0 s t ptL) (q1_Sta : Sta Z Z.heap "com/example/vesta/vesta/model/BeanScope" "$VALUES" "[Lcom/example/vesta/vesta/model/BeanScope;" (.ref va)) (V0 : Arv Z Z.heap va kv (.object "com/example/vesta/vesta/model/BeanScope") 2 [(.ref sg), (.ref pt)] .null) (VE : Exa Z Z.heap va "[Lcom/example/vesta/vesta/model/BeanScope;") (VF : ∀ cl : Cell, Z.heap[va]? = some cl → FitC Z cl) (q5_Sta : Sta Z Z.heap "java/lang/String" "COMPACT_STRINGS" "Z" (.int zc)) (P3 : ¬ zc = 0) (G1 : Fld Z Z.heap sg "com/example/vesta/vesta/model/BeanScope" "written" "Ljava/lang/String;" (.ref gs)) (G2 : StrL Z Z.heap gs tg sgL) (G3 : Fld Z Z.heap pt "com/example/vesta/vesta/model/BeanScope" "written" "Ljava/lang/String;" (.ref ps)) (G4 : StrL Z Z.heap ps tp ptL) (wS : ∀ a ∈ Bundle.stringAtoms, a.before a0 Z = true) :
    Met l Z (⟨"com/example/vesta/vesta/model/BeanScope", "named", "(Ljava/lang/String;)Lcom/example/vesta/vesta/model/BeanScope;"⟩ : MethodName) prog_27_method_4_code 6 (some (.object "com/example/vesta/vesta/model/BeanScope")) true [] ({ frames := 2, cells := 3, slots := 22, locals := 28 } : Room) #[(.ref s)] h0 (false, [], []) (fun v h J' => v = some (.ref pt) ∧ Keep h0 h [] ∧ J' = (false, [], [])) := by
  refine Met.of_goes (Ls := #[.val (.ref s), .unset, .unset, .unset, .unset, .unset]) (by first | exact plainFor_of_name (by first | (simp [plainName, overriddenIn]; done) | decide +kernel) | decide +kernel) (fun m => by first | (simp [entryFrame, mkF, argsToLocals, Value.category]; done) | rfl) rfl (fun G hGl => ?_)
  subst hGl
  have O2 := q5_Sta
  refine Wlk.aloadN (pc' := 1) (v := (.ref s)) dc_prog_27_method_4_code_0 rfl rfl rfl ?_
  refine Wlk.ldcAny (pc' := 3) (text := "name") (nn := 16) (J' := (false, [], [])) rfl dc_prog_27_method_4_code_1 (hw _ (List.mem_of_getElem? (i := 34) rfl)) wS (by decide) (by decide) (by decide) (by decide) rfl (fun ca92 h93 E94 => ?_)
  refine Wlk.callS (pc' := 6) (z := (⟨"java/util/Objects", "requireNonNull", "(Ljava/lang/Object;Ljava/lang/String;)Ljava/lang/Object;"⟩ : MethodName)) (argsL := [(.ref s), (.ref ca92)]) (st := []) (W := 0) dc_prog_27_method_4_code_3 (hw _ (List.mem_of_getElem? (i := 37) rfl)) (hw _ (List.mem_of_getElem? (i := 38) rfl)) (hw _ (List.mem_of_getElem? (i := 39) rfl)) (hw _ (List.mem_of_getElem? (i := 40) rfl)) (by decide) pd_5 rfl (rm_rnn hw s ca92 h93 ) (by decide) rfl (by decide) (by decide) (by decide) rfl rfl (fun v95 h96 J97 q98 => ?_)
  obtain ⟨rfl, rfl⟩ := q98
  show Wlk _ _ _ _ _ _ _ _ _ h93 2 20 6 #[.val (.ref s), .unset, .unset, .unset, .unset, .unset] [(.ref s)]
  refine Wlk.pop (pc' := 7) dc_prog_27_method_4_code_6 rfl rfl ?_
  refine Wlk.aconstNull (pc' := 8) dc_prog_27_method_4_code_7 rfl ?_
  refine Wlk.astoreN (pc' := 9) (Ls' := #[.val (.ref s), .val .null, .unset, .unset, .unset, .unset]) dc_prog_27_method_4_code_8 rfl rfl rfl rfl ?_
  refine Wlk.callS (pc' := 12) (z := (⟨"com/example/vesta/vesta/model/BeanScope", "values", "()[Lcom/example/vesta/vesta/model/BeanScope;"⟩ : MethodName)) (argsL := []) (st := []) (W := 0) dc_prog_27_method_4_code_9 (hw _ (List.mem_of_getElem? (i := 41) rfl)) (hw _ (List.mem_of_getElem? (i := 42) rfl)) (hw _ (List.mem_of_getElem? (i := 32) rfl)) (hw _ (List.mem_of_getElem? (i := 43) rfl)) (by decide) pd_6 rfl (rm_vals hw va _ _ _ h93 q1_Sta V0 VE VF) (by decide) rfl (by decide) (by decide) (by decide) rfl rfl (fun v99 h100 J101 q102 => ?_)
  obtain ⟨b103, rfl, le104, g105, K106, n107⟩ := q102
  show Wlk _ _ _ _ _ _ _ _ _ h100 3 22 12 #[.val (.ref s), .val .null, .unset, .unset, .unset, .unset] [(.ref b103)]
  refine Wlk.ext0 (fun hE108 => ?_)
  have g1 := G1.ext hE108
  have g2 := G2.ext hE108
  have g3 := G3.ext hE108
  have g4 := G4.ext hE108
  refine Wlk.astoreN (pc' := 13) (Ls' := #[.val (.ref s), .val .null, .val (.ref b103), .unset, .unset, .unset]) dc_prog_27_method_4_code_12 rfl rfl rfl rfl ?_
  refine Wlk.aloadN (pc' := 14) (v := (.ref b103)) dc_prog_27_method_4_code_13 rfl rfl rfl ?_
  refine Wlk.arraylength (pc' := 15) dc_prog_27_method_4_code_14 n107 rfl ?_
  refine Wlk.istoreN (pc' := 16) (Ls' := #[.val (.ref s), .val .null, .val (.ref b103), .val (.int (2 : Int32)), .unset, .unset]) dc_prog_27_method_4_code_15 rfl rfl rfl ?_
  refine Wlk.iconst (pc' := 17) (v := (0 : Int32)) dc_prog_27_method_4_code_16 rfl rfl ?_
  refine Wlk.istore (pc' := 19) (Ls' := #[.val (.ref s), .val .null, .val (.ref b103), .val (.int (2 : Int32)), .val (.int (0 : Int32)), .unset]) dc_prog_27_method_4_code_17 rfl rfl rfl ?_
  refine Wlk.iload (pc' := 21) (v := (0 : Int32)) dc_prog_27_method_4_code_19 rfl rfl ?_
  refine Wlk.iloadN (pc' := 22) (v := (2 : Int32)) dc_prog_27_method_4_code_21 rfl rfl ?_
  refine Wlk.icF (pc' := 25) dc_prog_27_method_4_code_22 (show (0 : Int32) < (2 : Int32) from by decide) rfl ?_
  refine Wlk.aloadN (pc' := 26) (v := (.ref b103)) dc_prog_27_method_4_code_25 rfl rfl rfl ?_
  refine Wlk.iload (pc' := 28) (v := (0 : Int32)) dc_prog_27_method_4_code_26 rfl rfl ?_
  refine Wlk.aaload (pc' := 29) (v := (.ref sg)) dc_prog_27_method_4_code_28 n107 rfl ⟨by decide, by decide⟩ rfl rfl ?_
  refine Wlk.astore (pc' := 31) (Ls' := #[.val (.ref s), .val .null, .val (.ref b103), .val (.int (2 : Int32)), .val (.int (0 : Int32)), .val (.ref sg)]) dc_prog_27_method_4_code_29 rfl rfl rfl rfl ?_
  refine Wlk.aload (pc' := 33) (v := (.ref sg)) dc_prog_27_method_4_code_31 rfl rfl rfl ?_
  refine Wlk.getF (pc' := 36) (v := (.ref gs)) dc_prog_27_method_4_code_33 (hw _ (List.mem_of_getElem? (i := 58) rfl)) Via.refl g1 rfl ?_
  refine Wlk.aloadN (pc' := 37) (v := (.ref s)) dc_prog_27_method_4_code_36 rfl rfl rfl ?_
  have c109 := ((q0_S.ext E94).keep K106 nin0 nin0)
  refine Wlk.callV (pc' := 40) (a := gs) (x := (⟨"java/lang/String", "equals", "(Ljava/lang/Object;)Z"⟩ : MethodName)) (C := "java/lang/String") (z := (⟨"java/lang/String", "equals", "(Ljava/lang/Object;)Z"⟩ : MethodName)) (argsL := [(.ref s)]) (st := []) (W := 0) dc_prog_27_method_4_code_37 (hw _ (List.mem_of_getElem? (i := 60) rfl)) (hw _ (List.mem_of_getElem? (i := 61) rfl)) (fun s q => notFace_of_selects (args := #[]) (mvT q (hw _ (List.mem_of_getElem? (i := 63) rfl)))) (hw _ (List.mem_of_getElem? (i := 63) rfl)) (hw _ (List.mem_of_getElem? (i := 62) rfl)) g2.1 (hw _ (List.mem_of_getElem? (i := 3) rfl)) (hw _ (List.mem_of_getElem? (i := 64) rfl)) (by decide) pd_7 rfl (st_eqA hw gs s tg t sgL ptL h100 g2 (c109.any (lat_all (fun x hx => (own_pt x hx).2))) zc O2 P3 own_sg (fun x hx => (own_pt x hx).1) (by first | assumption | exact Nat.le_of_ble_eq_true rfl) (by first | assumption | exact Nat.le_of_ble_eq_true rfl)) (by decide) rfl (by decide) (by decide) (by decide) rfl rfl (fun v110 h111 J112 q113 => ?_)
  obtain ⟨rfl, rfl⟩ := q113
  show Wlk _ _ _ _ _ _ _ _ _ h100 3 22 40 #[.val (.ref s), .val .null, .val (.ref b103), .val (.int (2 : Int32)), .val (.int (0 : Int32)), .val (.ref sg)] [(.int (if ptL = sgL then (1 : Int32) else 0))]
  refine Wlk.ifT (pc' := 49) dc_prog_27_method_4_code_40 (by decide) (by decide) (show (if ptL = sgL then (1 : Int32) else 0) = (0 : Int32) from (if_neg (by decide))) ?_
  refine Wlk.iinc (pc' := 52) (v := (1 : Int32)) (x := (0 : Int32)) (Ls' := #[.val (.ref s), .val .null, .val (.ref b103), .val (.int (2 : Int32)), .val (.int ((0 : Int32) + (1 : Int32))), .val (.ref sg)]) dc_prog_27_method_4_code_49 (by decide) rfl rfl rfl rfl ?_
  refine Wlk.goto (pc' := 19) dc_prog_27_method_4_code_52 (by decide) (by decide) ?_
  refine Wlk.iload (pc' := 21) (v := ((0 : Int32) + (1 : Int32))) dc_prog_27_method_4_code_19 rfl rfl ?_
  refine Wlk.iloadN (pc' := 22) (v := (2 : Int32)) dc_prog_27_method_4_code_21 rfl rfl ?_
  refine Wlk.icF (pc' := 25) dc_prog_27_method_4_code_22 (show ((0 : Int32) + (1 : Int32)) < (2 : Int32) from by decide) rfl ?_
  refine Wlk.aloadN (pc' := 26) (v := (.ref b103)) dc_prog_27_method_4_code_25 rfl rfl rfl ?_
  refine Wlk.iload (pc' := 28) (v := ((0 : Int32) + (1 : Int32))) dc_prog_27_method_4_code_26 rfl rfl ?_
  refine Wlk.aaload (pc' := 29) (v := (.ref pt)) dc_prog_27_method_4_code_28 n107 rfl ⟨by decide, by decide⟩ rfl rfl ?_
  refine Wlk.astore (pc' := 31) (Ls' := #[.val (.ref s), .val .null, .val (.ref b103), .val (.int (2 : Int32)), .val (.int ((0 : Int32) + (1 : Int32))), .val (.ref pt)]) dc_prog_27_method_4_code_29 rfl rfl rfl rfl ?_
  refine Wlk.aload (pc' := 33) (v := (.ref pt)) dc_prog_27_method_4_code_31 rfl rfl rfl ?_
  refine Wlk.getF (pc' := 36) (v := (.ref ps)) dc_prog_27_method_4_code_33 (hw _ (List.mem_of_getElem? (i := 58) rfl)) Via.refl g3 rfl ?_
  refine Wlk.aloadN (pc' := 37) (v := (.ref s)) dc_prog_27_method_4_code_36 rfl rfl rfl ?_
  refine Wlk.callV (pc' := 40) (a := ps) (x := (⟨"java/lang/String", "equals", "(Ljava/lang/Object;)Z"⟩ : MethodName)) (C := "java/lang/String") (z := (⟨"java/lang/String", "equals", "(Ljava/lang/Object;)Z"⟩ : MethodName)) (argsL := [(.ref s)]) (st := []) (W := 0) dc_prog_27_method_4_code_37 (hw _ (List.mem_of_getElem? (i := 60) rfl)) (hw _ (List.mem_of_getElem? (i := 61) rfl)) (fun s q => notFace_of_selects (args := #[]) (mvT q (hw _ (List.mem_of_getElem? (i := 63) rfl)))) (hw _ (List.mem_of_getElem? (i := 63) rfl)) (hw _ (List.mem_of_getElem? (i := 62) rfl)) g4.1 (hw _ (List.mem_of_getElem? (i := 3) rfl)) (hw _ (List.mem_of_getElem? (i := 64) rfl)) (by decide) pd_7 rfl (st_eqA hw ps s tp t ptL ptL h100 g4 (c109.any (lat_all (fun x hx => (own_pt x hx).2))) zc O2 P3 own_pt (fun x hx => (own_pt x hx).1) (by first | assumption | exact Nat.le_of_ble_eq_true rfl) (by first | assumption | exact Nat.le_of_ble_eq_true rfl)) (by decide) rfl (by decide) (by decide) (by decide) rfl rfl (fun v114 h115 J116 q117 => ?_)
  obtain ⟨rfl, rfl⟩ := q117
  show Wlk _ _ _ _ _ _ _ _ _ h100 3 22 40 #[.val (.ref s), .val .null, .val (.ref b103), .val (.int (2 : Int32)), .val (.int ((0 : Int32) + (1 : Int32))), .val (.ref pt)] [(.int (if ptL = ptL then (1 : Int32) else 0))]
  refine Wlk.ifF (pc' := 43) dc_prog_27_method_4_code_40 (show ¬ ((if ptL = ptL then (1 : Int32) else 0) = (0 : Int32)) from (by rw [if_pos rfl]; decide)) rfl ?_
  refine Wlk.aload (pc' := 45) (v := (.ref pt)) dc_prog_27_method_4_code_43 rfl rfl rfl ?_
  refine Wlk.astoreN (pc' := 46) (Ls' := #[.val (.ref s), .val (.ref pt), .val (.ref b103), .val (.int (2 : Int32)), .val (.int ((0 : Int32) + (1 : Int32))), .val (.ref pt)]) dc_prog_27_method_4_code_45 rfl rfl rfl rfl ?_
  refine Wlk.goto (pc' := 55) dc_prog_27_method_4_code_46 (by decide) (by decide) ?_
  refine Wlk.aloadN (pc' := 56) (v := (.ref pt)) dc_prog_27_method_4_code_55 rfl rfl rfl ?_
  refine Wlk.ifnonnullT (pc' := 73) dc_prog_27_method_4_code_56 (by decide) (by decide) ?_
  refine Wlk.aloadN (pc' := 74) (v := (.ref pt)) dc_prog_27_method_4_code_73 rfl rfl rfl ?_
  refine Wlk.areturn (t := (.object "com/example/vesta/vesta/model/BeanScope")) dc_prog_27_method_4_code_74 rfl rfl rfl rfl (by decide) (by decide) ?_
  exact ⟨rfl, (((Keep.refl h0 []).ext E94).trans K106 all0), rfl⟩

set_option maxRecDepth 65536 in
set_option maxHeartbeats 40000000 in
theorem rm_law {l : Launch} {Z : State} {a0 : Array Value} (hw : ∀ d ∈ tables_1, d.before a0 Z = true) (ws : List Jvm.Cond) (p1 : Int32) (h0 : Heap) (zc : Int32) (O2 : Sta Z Z.heap "java/lang/String" "COMPACT_STRINGS" "Z" (.int zc)) (P3 : ¬ zc = 0) (va sg pt gs tg ps tp : Addr) (kv : ClassId) (SV : Sta Z Z.heap "com/example/vesta/vesta/model/BeanScope" "$VALUES" "[Lcom/example/vesta/vesta/model/BeanScope;" (.ref va)) (SG : Sta Z Z.heap "com/example/vesta/vesta/model/BeanScope" "SINGLETON" "Lcom/example/vesta/vesta/model/BeanScope;" (.ref sg)) (SP : Sta Z Z.heap "com/example/vesta/vesta/model/BeanScope" "PROTOTYPE" "Lcom/example/vesta/vesta/model/BeanScope;" (.ref pt)) (V0 : Arv Z Z.heap va kv (.object "com/example/vesta/vesta/model/BeanScope") 2 [(.ref sg), (.ref pt)] .null) (VE : Exa Z Z.heap va "[Lcom/example/vesta/vesta/model/BeanScope;") (VF : ∀ cl : Cell, Z.heap[va]? = some cl → FitC Z cl) (G1 : Fld Z Z.heap sg "com/example/vesta/vesta/model/BeanScope" "written" "Ljava/lang/String;" (.ref gs)) (G2 : StrL Z Z.heap gs tg sgL) (G3 : Fld Z Z.heap pt "com/example/vesta/vesta/model/BeanScope" "written" "Ljava/lang/String;" (.ref ps)) (G4 : StrL Z Z.heap ps tp ptL) (wS : ∀ a ∈ Bundle.stringAtoms, a.before a0 Z = true) :
    Met l Z x code maxLocals ret true ws room_1 #[(.int p1)] h0 (false, [], []) (fun v h J => v = some (.int 1)) := by
  refine Met.of_goes (Ls := #[.val (.int p1), .unset, .unset, .unset, .unset, .unset, .unset]) (by first | exact plainFor_of_name (by first | (simp [plainName, overriddenIn]; done) | decide +kernel) | decide +kernel) (fun m => by first | (simp [entryFrame, mkF, argsToLocals, Value.category, maxLocals]; done) | rfl) rfl (fun G hGl => ?_)
  subst hGl
  refine Wlk.iloadN (pc' := 1) (v := p1) at_0 rfl rfl ?_
  refine Wlk.iconst (pc' := 2) (v := (1 : Int32)) at_1 rfl rfl ?_
  refine Wlk.iand (pc' := 3) at_2 rfl ?_
  refine Wlk.if_ (pcT := 10) (pcF := 6) at_3 (by decide) (by decide) rfl (fun (hc118 : (p1 &&& (1 : Int32)) = (0 : Int32)) => ?_) (fun (hc118 : ¬ ((p1 &&& (1 : Int32)) = (0 : Int32))) => ?_)
  · skip
    refine Wlk.iconst (pc' := 11) (v := (0 : Int32)) at_10 rfl rfl ?_
    refine Wlk.istoreN (pc' := 12) (Ls' := #[.val (.int p1), .val (.int (0 : Int32)), .unset, .unset, .unset, .unset, .unset]) at_11 rfl rfl rfl ?_
    refine Wlk.bipush (pc' := 14) (v := (9 : Int32)) at_12 (by decide) rfl ?_
    refine Wlk.newP (pc' := 16) (ty := .char) (cap := 9) at_14 rfl (hw _ (List.mem_of_getElem? (i := 0) rfl)) (by decide) (by decide) (by decide) (by decide) (by decide) rfl (fun b119 h120 kc121 le122 g123 E124 A125 => ?_)
    have A126 : Arv Z h120 b119 kc121 .char (9 : Int32) [.int 0, .int 0, .int 0, .int 0, .int 0, .int 0, .int 0, .int 0, .int 0] (.int 0) := A125.pad (pad_rep [] (.int 0) 9)
    refine Wlk.dup (pc' := 17) at_16 rfl rfl ?_
    refine Wlk.iconst (pc' := 18) (v := (0 : Int32)) at_17 rfl rfl ?_
    refine Wlk.bipush (pc' := 20) (v := (115 : Int32)) at_18 (by decide) rfl ?_
    refine Wlk.castore (pc' := 21) (i := 0) at_20 A126 ⟨by decide, by decide⟩ rfl (Nat.le_of_ble_eq_true rfl) g123 rfl (fun h127 W128 A129 => ?_)
    have A130 : Arv Z h127 b119 kc121 .char (9 : Int32) [(.int (nar .char (115 : Int32))), (.int (0 : Int32)), (.int (0 : Int32)), (.int (0 : Int32)), (.int (0 : Int32)), (.int (0 : Int32)), (.int (0 : Int32)), (.int (0 : Int32)), (.int (0 : Int32))] (.int 0) := A129
    refine Wlk.dup (pc' := 22) at_21 rfl rfl ?_
    refine Wlk.iconst (pc' := 23) (v := (1 : Int32)) at_22 rfl rfl ?_
    refine Wlk.bipush (pc' := 25) (v := (105 : Int32)) at_23 (by decide) rfl ?_
    refine Wlk.castore (pc' := 26) (i := 1) at_25 A130 ⟨by decide, by decide⟩ rfl (Nat.le_of_ble_eq_true rfl) g123 rfl (fun h131 W132 A133 => ?_)
    have A134 : Arv Z h131 b119 kc121 .char (9 : Int32) [(.int (nar .char (115 : Int32))), (.int (nar .char (105 : Int32))), (.int (0 : Int32)), (.int (0 : Int32)), (.int (0 : Int32)), (.int (0 : Int32)), (.int (0 : Int32)), (.int (0 : Int32)), (.int (0 : Int32))] (.int 0) := A133
    refine Wlk.dup (pc' := 27) at_26 rfl rfl ?_
    refine Wlk.iconst (pc' := 28) (v := (2 : Int32)) at_27 rfl rfl ?_
    refine Wlk.bipush (pc' := 30) (v := (110 : Int32)) at_28 (by decide) rfl ?_
    refine Wlk.castore (pc' := 31) (i := 2) at_30 A134 ⟨by decide, by decide⟩ rfl (Nat.le_of_ble_eq_true rfl) g123 rfl (fun h135 W136 A137 => ?_)
    have A138 : Arv Z h135 b119 kc121 .char (9 : Int32) [(.int (nar .char (115 : Int32))), (.int (nar .char (105 : Int32))), (.int (nar .char (110 : Int32))), (.int (0 : Int32)), (.int (0 : Int32)), (.int (0 : Int32)), (.int (0 : Int32)), (.int (0 : Int32)), (.int (0 : Int32))] (.int 0) := A137
    refine Wlk.dup (pc' := 32) at_31 rfl rfl ?_
    refine Wlk.iconst (pc' := 33) (v := (3 : Int32)) at_32 rfl rfl ?_
    refine Wlk.bipush (pc' := 35) (v := (103 : Int32)) at_33 (by decide) rfl ?_
    refine Wlk.castore (pc' := 36) (i := 3) at_35 A138 ⟨by decide, by decide⟩ rfl (Nat.le_of_ble_eq_true rfl) g123 rfl (fun h139 W140 A141 => ?_)
    have A142 : Arv Z h139 b119 kc121 .char (9 : Int32) [(.int (nar .char (115 : Int32))), (.int (nar .char (105 : Int32))), (.int (nar .char (110 : Int32))), (.int (nar .char (103 : Int32))), (.int (0 : Int32)), (.int (0 : Int32)), (.int (0 : Int32)), (.int (0 : Int32)), (.int (0 : Int32))] (.int 0) := A141
    refine Wlk.dup (pc' := 37) at_36 rfl rfl ?_
    refine Wlk.iconst (pc' := 38) (v := (4 : Int32)) at_37 rfl rfl ?_
    refine Wlk.bipush (pc' := 40) (v := (108 : Int32)) at_38 (by decide) rfl ?_
    refine Wlk.castore (pc' := 41) (i := 4) at_40 A142 ⟨by decide, by decide⟩ rfl (Nat.le_of_ble_eq_true rfl) g123 rfl (fun h143 W144 A145 => ?_)
    have A146 : Arv Z h143 b119 kc121 .char (9 : Int32) [(.int (nar .char (115 : Int32))), (.int (nar .char (105 : Int32))), (.int (nar .char (110 : Int32))), (.int (nar .char (103 : Int32))), (.int (nar .char (108 : Int32))), (.int (0 : Int32)), (.int (0 : Int32)), (.int (0 : Int32)), (.int (0 : Int32))] (.int 0) := A145
    refine Wlk.dup (pc' := 42) at_41 rfl rfl ?_
    refine Wlk.iconst (pc' := 43) (v := (5 : Int32)) at_42 rfl rfl ?_
    refine Wlk.bipush (pc' := 45) (v := (101 : Int32)) at_43 (by decide) rfl ?_
    refine Wlk.castore (pc' := 46) (i := 5) at_45 A146 ⟨by decide, by decide⟩ rfl (Nat.le_of_ble_eq_true rfl) g123 rfl (fun h147 W148 A149 => ?_)
    have A150 : Arv Z h147 b119 kc121 .char (9 : Int32) [(.int (nar .char (115 : Int32))), (.int (nar .char (105 : Int32))), (.int (nar .char (110 : Int32))), (.int (nar .char (103 : Int32))), (.int (nar .char (108 : Int32))), (.int (nar .char (101 : Int32))), (.int (0 : Int32)), (.int (0 : Int32)), (.int (0 : Int32))] (.int 0) := A149
    refine Wlk.dup (pc' := 47) at_46 rfl rfl ?_
    refine Wlk.bipush (pc' := 49) (v := (6 : Int32)) at_47 (by decide) rfl ?_
    refine Wlk.bipush (pc' := 51) (v := (116 : Int32)) at_49 (by decide) rfl ?_
    refine Wlk.castore (pc' := 52) (i := 6) at_51 A150 ⟨by decide, by decide⟩ rfl (Nat.le_of_ble_eq_true rfl) g123 rfl (fun h151 W152 A153 => ?_)
    have A154 : Arv Z h151 b119 kc121 .char (9 : Int32) [(.int (nar .char (115 : Int32))), (.int (nar .char (105 : Int32))), (.int (nar .char (110 : Int32))), (.int (nar .char (103 : Int32))), (.int (nar .char (108 : Int32))), (.int (nar .char (101 : Int32))), (.int (nar .char (116 : Int32))), (.int (0 : Int32)), (.int (0 : Int32))] (.int 0) := A153
    refine Wlk.dup (pc' := 53) at_52 rfl rfl ?_
    refine Wlk.bipush (pc' := 55) (v := (7 : Int32)) at_53 (by decide) rfl ?_
    refine Wlk.bipush (pc' := 57) (v := (111 : Int32)) at_55 (by decide) rfl ?_
    refine Wlk.castore (pc' := 58) (i := 7) at_57 A154 ⟨by decide, by decide⟩ rfl (Nat.le_of_ble_eq_true rfl) g123 rfl (fun h155 W156 A157 => ?_)
    have A158 : Arv Z h155 b119 kc121 .char (9 : Int32) [(.int (nar .char (115 : Int32))), (.int (nar .char (105 : Int32))), (.int (nar .char (110 : Int32))), (.int (nar .char (103 : Int32))), (.int (nar .char (108 : Int32))), (.int (nar .char (101 : Int32))), (.int (nar .char (116 : Int32))), (.int (nar .char (111 : Int32))), (.int (0 : Int32))] (.int 0) := A157
    refine Wlk.dup (pc' := 59) at_58 rfl rfl ?_
    refine Wlk.bipush (pc' := 61) (v := (8 : Int32)) at_59 (by decide) rfl ?_
    refine Wlk.bipush (pc' := 63) (v := (110 : Int32)) at_61 (by decide) rfl ?_
    refine Wlk.castore (pc' := 64) (i := 8) at_63 A158 ⟨by decide, by decide⟩ rfl (Nat.le_of_ble_eq_true rfl) g123 rfl (fun h159 W160 A161 => ?_)
    have A162 : Arv Z h159 b119 kc121 .char (9 : Int32) [(.int (nar .char (115 : Int32))), (.int (nar .char (105 : Int32))), (.int (nar .char (110 : Int32))), (.int (nar .char (103 : Int32))), (.int (nar .char (108 : Int32))), (.int (nar .char (101 : Int32))), (.int (nar .char (116 : Int32))), (.int (nar .char (111 : Int32))), (.int (nar .char (110 : Int32)))] (.int 0) := A161
    refine Wlk.astoreN (pc' := 65) (Ls' := #[.val (.int p1), .val (.int (0 : Int32)), .val (.ref b119), .unset, .unset, .unset, .unset]) at_64 rfl rfl rfl rfl ?_
    refine Wlk.bipush (pc' := 67) (v := (9 : Int32)) at_65 (by decide) rfl ?_
    refine Wlk.newP (pc' := 69) (ty := .char) (cap := 9) at_67 rfl (hw _ (List.mem_of_getElem? (i := 0) rfl)) (by decide) (by decide) (by decide) (by decide) (by decide) rfl (fun b163 h164 kc165 le166 g167 E168 A169 => ?_)
    have A170 : Arv Z h164 b163 kc165 .char (9 : Int32) [.int 0, .int 0, .int 0, .int 0, .int 0, .int 0, .int 0, .int 0, .int 0] (.int 0) := A169.pad (pad_rep [] (.int 0) 9)
    refine Wlk.dup (pc' := 70) at_69 rfl rfl ?_
    refine Wlk.iconst (pc' := 71) (v := (0 : Int32)) at_70 rfl rfl ?_
    refine Wlk.bipush (pc' := 73) (v := (112 : Int32)) at_71 (by decide) rfl ?_
    refine Wlk.castore (pc' := 74) (i := 0) at_73 A170 ⟨by decide, by decide⟩ rfl (Nat.le_of_ble_eq_true rfl) g167 rfl (fun h171 W172 A173 => ?_)
    have A174 : Arv Z h171 b163 kc165 .char (9 : Int32) [(.int (nar .char (112 : Int32))), (.int (0 : Int32)), (.int (0 : Int32)), (.int (0 : Int32)), (.int (0 : Int32)), (.int (0 : Int32)), (.int (0 : Int32)), (.int (0 : Int32)), (.int (0 : Int32))] (.int 0) := A173
    refine Wlk.dup (pc' := 75) at_74 rfl rfl ?_
    refine Wlk.iconst (pc' := 76) (v := (1 : Int32)) at_75 rfl rfl ?_
    refine Wlk.bipush (pc' := 78) (v := (114 : Int32)) at_76 (by decide) rfl ?_
    refine Wlk.castore (pc' := 79) (i := 1) at_78 A174 ⟨by decide, by decide⟩ rfl (Nat.le_of_ble_eq_true rfl) g167 rfl (fun h175 W176 A177 => ?_)
    have A178 : Arv Z h175 b163 kc165 .char (9 : Int32) [(.int (nar .char (112 : Int32))), (.int (nar .char (114 : Int32))), (.int (0 : Int32)), (.int (0 : Int32)), (.int (0 : Int32)), (.int (0 : Int32)), (.int (0 : Int32)), (.int (0 : Int32)), (.int (0 : Int32))] (.int 0) := A177
    refine Wlk.dup (pc' := 80) at_79 rfl rfl ?_
    refine Wlk.iconst (pc' := 81) (v := (2 : Int32)) at_80 rfl rfl ?_
    refine Wlk.bipush (pc' := 83) (v := (111 : Int32)) at_81 (by decide) rfl ?_
    refine Wlk.castore (pc' := 84) (i := 2) at_83 A178 ⟨by decide, by decide⟩ rfl (Nat.le_of_ble_eq_true rfl) g167 rfl (fun h179 W180 A181 => ?_)
    have A182 : Arv Z h179 b163 kc165 .char (9 : Int32) [(.int (nar .char (112 : Int32))), (.int (nar .char (114 : Int32))), (.int (nar .char (111 : Int32))), (.int (0 : Int32)), (.int (0 : Int32)), (.int (0 : Int32)), (.int (0 : Int32)), (.int (0 : Int32)), (.int (0 : Int32))] (.int 0) := A181
    refine Wlk.dup (pc' := 85) at_84 rfl rfl ?_
    refine Wlk.iconst (pc' := 86) (v := (3 : Int32)) at_85 rfl rfl ?_
    refine Wlk.bipush (pc' := 88) (v := (116 : Int32)) at_86 (by decide) rfl ?_
    refine Wlk.castore (pc' := 89) (i := 3) at_88 A182 ⟨by decide, by decide⟩ rfl (Nat.le_of_ble_eq_true rfl) g167 rfl (fun h183 W184 A185 => ?_)
    have A186 : Arv Z h183 b163 kc165 .char (9 : Int32) [(.int (nar .char (112 : Int32))), (.int (nar .char (114 : Int32))), (.int (nar .char (111 : Int32))), (.int (nar .char (116 : Int32))), (.int (0 : Int32)), (.int (0 : Int32)), (.int (0 : Int32)), (.int (0 : Int32)), (.int (0 : Int32))] (.int 0) := A185
    refine Wlk.dup (pc' := 90) at_89 rfl rfl ?_
    refine Wlk.iconst (pc' := 91) (v := (4 : Int32)) at_90 rfl rfl ?_
    refine Wlk.bipush (pc' := 93) (v := (111 : Int32)) at_91 (by decide) rfl ?_
    refine Wlk.castore (pc' := 94) (i := 4) at_93 A186 ⟨by decide, by decide⟩ rfl (Nat.le_of_ble_eq_true rfl) g167 rfl (fun h187 W188 A189 => ?_)
    have A190 : Arv Z h187 b163 kc165 .char (9 : Int32) [(.int (nar .char (112 : Int32))), (.int (nar .char (114 : Int32))), (.int (nar .char (111 : Int32))), (.int (nar .char (116 : Int32))), (.int (nar .char (111 : Int32))), (.int (0 : Int32)), (.int (0 : Int32)), (.int (0 : Int32)), (.int (0 : Int32))] (.int 0) := A189
    refine Wlk.dup (pc' := 95) at_94 rfl rfl ?_
    refine Wlk.iconst (pc' := 96) (v := (5 : Int32)) at_95 rfl rfl ?_
    refine Wlk.bipush (pc' := 98) (v := (116 : Int32)) at_96 (by decide) rfl ?_
    refine Wlk.castore (pc' := 99) (i := 5) at_98 A190 ⟨by decide, by decide⟩ rfl (Nat.le_of_ble_eq_true rfl) g167 rfl (fun h191 W192 A193 => ?_)
    have A194 : Arv Z h191 b163 kc165 .char (9 : Int32) [(.int (nar .char (112 : Int32))), (.int (nar .char (114 : Int32))), (.int (nar .char (111 : Int32))), (.int (nar .char (116 : Int32))), (.int (nar .char (111 : Int32))), (.int (nar .char (116 : Int32))), (.int (0 : Int32)), (.int (0 : Int32)), (.int (0 : Int32))] (.int 0) := A193
    refine Wlk.dup (pc' := 100) at_99 rfl rfl ?_
    refine Wlk.bipush (pc' := 102) (v := (6 : Int32)) at_100 (by decide) rfl ?_
    refine Wlk.bipush (pc' := 104) (v := (121 : Int32)) at_102 (by decide) rfl ?_
    refine Wlk.castore (pc' := 105) (i := 6) at_104 A194 ⟨by decide, by decide⟩ rfl (Nat.le_of_ble_eq_true rfl) g167 rfl (fun h195 W196 A197 => ?_)
    have A198 : Arv Z h195 b163 kc165 .char (9 : Int32) [(.int (nar .char (112 : Int32))), (.int (nar .char (114 : Int32))), (.int (nar .char (111 : Int32))), (.int (nar .char (116 : Int32))), (.int (nar .char (111 : Int32))), (.int (nar .char (116 : Int32))), (.int (nar .char (121 : Int32))), (.int (0 : Int32)), (.int (0 : Int32))] (.int 0) := A197
    refine Wlk.dup (pc' := 106) at_105 rfl rfl ?_
    refine Wlk.bipush (pc' := 108) (v := (7 : Int32)) at_106 (by decide) rfl ?_
    refine Wlk.bipush (pc' := 110) (v := (112 : Int32)) at_108 (by decide) rfl ?_
    refine Wlk.castore (pc' := 111) (i := 7) at_110 A198 ⟨by decide, by decide⟩ rfl (Nat.le_of_ble_eq_true rfl) g167 rfl (fun h199 W200 A201 => ?_)
    have A202 : Arv Z h199 b163 kc165 .char (9 : Int32) [(.int (nar .char (112 : Int32))), (.int (nar .char (114 : Int32))), (.int (nar .char (111 : Int32))), (.int (nar .char (116 : Int32))), (.int (nar .char (111 : Int32))), (.int (nar .char (116 : Int32))), (.int (nar .char (121 : Int32))), (.int (nar .char (112 : Int32))), (.int (0 : Int32))] (.int 0) := A201
    refine Wlk.dup (pc' := 112) at_111 rfl rfl ?_
    refine Wlk.bipush (pc' := 114) (v := (8 : Int32)) at_112 (by decide) rfl ?_
    refine Wlk.bipush (pc' := 116) (v := (101 : Int32)) at_114 (by decide) rfl ?_
    refine Wlk.castore (pc' := 117) (i := 8) at_116 A202 ⟨by decide, by decide⟩ rfl (Nat.le_of_ble_eq_true rfl) g167 rfl (fun h203 W204 A205 => ?_)
    have A206 : Arv Z h203 b163 kc165 .char (9 : Int32) [(.int (nar .char (112 : Int32))), (.int (nar .char (114 : Int32))), (.int (nar .char (111 : Int32))), (.int (nar .char (116 : Int32))), (.int (nar .char (111 : Int32))), (.int (nar .char (116 : Int32))), (.int (nar .char (121 : Int32))), (.int (nar .char (112 : Int32))), (.int (nar .char (101 : Int32)))] (.int 0) := A205
    refine Wlk.astoreN (pc' := 118) (Ls' := #[.val (.int p1), .val (.int (0 : Int32)), .val (.ref b119), .val (.ref b163), .unset, .unset, .unset]) at_117 rfl rfl rfl rfl ?_
    refine Wlk.iloadN (pc' := 119) (v := (0 : Int32)) at_118 rfl rfl ?_
    refine Wlk.ifT (pc' := 133) at_119 (by decide) (by decide) (show (0 : Int32) = (0 : Int32) from by decide) ?_
    refine Wlk.newO (pc' := 136) (C := "java/lang/String") at_133 (hw _ (List.mem_of_getElem? (i := 1) rfl)) (hw _ (List.mem_of_getElem? (i := 2) rfl)) (hw _ (List.mem_of_getElem? (i := 3) rfl)) (by decide) (by decide) rfl (fun b207 h208 le209 g210 E211 A212 D213 => ?_)
    have F214 : Fld Z h208 b207 "java/lang/String" "coder" "B" (.int (0 : Int32)) := D213 (Or.inr (hw _ (List.mem_of_getElem? (i := 27) rfl))) (ty := .byte) (by decide)
    have F215 : Fld Z h208 b207 "java/lang/String" "value" "[B" .null := D213 (Or.inr (hw _ (List.mem_of_getElem? (i := 29) rfl))) (ty := (.array .byte)) (by decide)
    refine Wlk.dup (pc' := 137) at_136 rfl rfl ?_
    refine Wlk.aloadN (pc' := 138) (v := (.ref b163)) at_137 rfl rfl rfl ?_
    have c216 := (A206.ext E211)
    refine Wlk.callC (pc' := 141) (a := b207) (z := (⟨"java/lang/String", "<init>", "([C)V"⟩ : MethodName)) (argsL := [(.ref b163)]) (st := [(.ref b207)]) (W := 1) at_138 (hw _ (List.mem_of_getElem? (i := 4) rfl)) (hw _ (List.mem_of_getElem? (i := 5) rfl)) (hw _ (List.mem_of_getElem? (i := 3) rfl)) (hw _ (List.mem_of_getElem? (i := 6) rfl)) (by decide) rfl pd_8 rfl (st_ini1 hw b207 b163 _ _ kc165 [(nar .char (112 : Int32)), (nar .char (114 : Int32)), (nar .char (111 : Int32)), (nar .char (116 : Int32)), (nar .char (111 : Int32)), (nar .char (116 : Int32)), (nar .char (121 : Int32)), (nar .char (112 : Int32)), (nar .char (101 : Int32))] _ h208 A212 F215 F214 g210 c216 (Nat.le_of_ble_eq_true rfl) (Nat.le_of_ble_eq_true rfl) (by decide) zc O2 P3) (by decide) rfl (by decide) (by decide) (by decide) rfl rfl (fun v217 h218 J219 q220 => ?_)
    obtain ⟨rfl, K221, t222, le223, g224, S225⟩ := q220
    have S226 : StrL Z h218 b207 t222 ptL := S225
    show Wlk _ _ _ _ _ _ _ _ _ h218 4 31 141 #[.val (.int p1), .val (.int (0 : Int32)), .val (.ref b119), .val (.ref b163), .unset, .unset, .unset] [(.ref b207)]
    refine Wlk.astore (pc' := 143) (Ls' := #[.val (.int p1), .val (.int (0 : Int32)), .val (.ref b119), .val (.ref b163), .val (.ref b207), .unset, .unset]) at_141 rfl rfl rfl rfl ?_
    refine Wlk.aload (pc' := 145) (v := (.ref b207)) at_143 rfl rfl rfl ?_
    refine Wlk.callSw (pc' := 148) (z := (⟨"com/example/vesta/vesta/model/BeanScope", "named", "(Ljava/lang/String;)Lcom/example/vesta/vesta/model/BeanScope;"⟩ : MethodName)) (argsL := [(.ref b207)]) (st := []) (W := 0) at_145 (hw _ (List.mem_of_getElem? (i := 30) rfl)) (hw _ (List.mem_of_getElem? (i := 31) rfl)) (hw _ (List.mem_of_getElem? (i := 32) rfl)) (hw _ (List.mem_of_getElem? (i := 33) rfl)) (by decide) pd_9 rfl (rm_namedP hw b207 t222 va _ _ _ _ _ _ _ zc h218 S226 SV V0 VE VF O2 P3 G1 G2 G3 G4 wS) (by decide) rfl (by decide) (by decide) (by decide) rfl rfl (fun v227 h228 J229 q230 => ?_)
    obtain ⟨rfl, K231, rfl⟩ := q230
    show Wlk _ _ _ _ _ _ _ _ _ h228 7 53 148 #[.val (.int p1), .val (.int (0 : Int32)), .val (.ref b119), .val (.ref b163), .val (.ref b207), .unset, .unset] [(.ref pt)]
    refine Wlk.astore (pc' := 150) (Ls' := #[.val (.int p1), .val (.int (0 : Int32)), .val (.ref b119), .val (.ref b163), .val (.ref b207), .val (.ref pt), .unset]) at_148 rfl rfl rfl rfl ?_
    refine Wlk.iloadN (pc' := 151) (v := (0 : Int32)) at_150 rfl rfl ?_
    refine Wlk.ifT (pc' := 160) at_151 (by decide) (by decide) (show (0 : Int32) = (0 : Int32) from by decide) ?_
    refine Wlk.getS (pc' := 163) (v := (.ref pt)) at_160 (hw _ (List.mem_of_getElem? (i := 70) rfl)) Via.refl SP rfl ?_
    refine Wlk.astore (pc' := 165) (Ls' := #[.val (.int p1), .val (.int (0 : Int32)), .val (.ref b119), .val (.ref b163), .val (.ref b207), .val (.ref pt), .val (.ref pt)]) at_163 rfl rfl rfl rfl ?_
    refine Wlk.aload (pc' := 167) (v := (.ref pt)) at_165 rfl rfl rfl ?_
    refine Wlk.aload (pc' := 169) (v := (.ref pt)) at_167 rfl rfl rfl ?_
    refine Wlk.acmp (pc' := 172) (same := true) at_169 rfl rfl (decide_eq_true rfl) (by decide) (by decide) ?_
    refine Wlk.iconst (pc' := 173) (v := (1 : Int32)) at_172 rfl rfl ?_
    refine Wlk.goto (pc' := 177) at_173 (by decide) (by decide) ?_
    refine Wlk.ireturnN (t := .boolean) at_177 rfl (by simp) (by decide) (by decide) ?_
    exact rfl
  · skip
    refine Wlk.iconst (pc' := 7) (v := (1 : Int32)) at_6 rfl rfl ?_
    refine Wlk.goto (pc' := 11) at_7 (by decide) (by decide) ?_
    refine Wlk.istoreN (pc' := 12) (Ls' := #[.val (.int p1), .val (.int (1 : Int32)), .unset, .unset, .unset, .unset, .unset]) at_11 rfl rfl rfl ?_
    refine Wlk.bipush (pc' := 14) (v := (9 : Int32)) at_12 (by decide) rfl ?_
    refine Wlk.newP (pc' := 16) (ty := .char) (cap := 9) at_14 rfl (hw _ (List.mem_of_getElem? (i := 0) rfl)) (by decide) (by decide) (by decide) (by decide) (by decide) rfl (fun b232 h233 kc234 le235 g236 E237 A238 => ?_)
    have A239 : Arv Z h233 b232 kc234 .char (9 : Int32) [.int 0, .int 0, .int 0, .int 0, .int 0, .int 0, .int 0, .int 0, .int 0] (.int 0) := A238.pad (pad_rep [] (.int 0) 9)
    refine Wlk.dup (pc' := 17) at_16 rfl rfl ?_
    refine Wlk.iconst (pc' := 18) (v := (0 : Int32)) at_17 rfl rfl ?_
    refine Wlk.bipush (pc' := 20) (v := (115 : Int32)) at_18 (by decide) rfl ?_
    refine Wlk.castore (pc' := 21) (i := 0) at_20 A239 ⟨by decide, by decide⟩ rfl (Nat.le_of_ble_eq_true rfl) g236 rfl (fun h240 W241 A242 => ?_)
    have A243 : Arv Z h240 b232 kc234 .char (9 : Int32) [(.int (nar .char (115 : Int32))), (.int (0 : Int32)), (.int (0 : Int32)), (.int (0 : Int32)), (.int (0 : Int32)), (.int (0 : Int32)), (.int (0 : Int32)), (.int (0 : Int32)), (.int (0 : Int32))] (.int 0) := A242
    refine Wlk.dup (pc' := 22) at_21 rfl rfl ?_
    refine Wlk.iconst (pc' := 23) (v := (1 : Int32)) at_22 rfl rfl ?_
    refine Wlk.bipush (pc' := 25) (v := (105 : Int32)) at_23 (by decide) rfl ?_
    refine Wlk.castore (pc' := 26) (i := 1) at_25 A243 ⟨by decide, by decide⟩ rfl (Nat.le_of_ble_eq_true rfl) g236 rfl (fun h244 W245 A246 => ?_)
    have A247 : Arv Z h244 b232 kc234 .char (9 : Int32) [(.int (nar .char (115 : Int32))), (.int (nar .char (105 : Int32))), (.int (0 : Int32)), (.int (0 : Int32)), (.int (0 : Int32)), (.int (0 : Int32)), (.int (0 : Int32)), (.int (0 : Int32)), (.int (0 : Int32))] (.int 0) := A246
    refine Wlk.dup (pc' := 27) at_26 rfl rfl ?_
    refine Wlk.iconst (pc' := 28) (v := (2 : Int32)) at_27 rfl rfl ?_
    refine Wlk.bipush (pc' := 30) (v := (110 : Int32)) at_28 (by decide) rfl ?_
    refine Wlk.castore (pc' := 31) (i := 2) at_30 A247 ⟨by decide, by decide⟩ rfl (Nat.le_of_ble_eq_true rfl) g236 rfl (fun h248 W249 A250 => ?_)
    have A251 : Arv Z h248 b232 kc234 .char (9 : Int32) [(.int (nar .char (115 : Int32))), (.int (nar .char (105 : Int32))), (.int (nar .char (110 : Int32))), (.int (0 : Int32)), (.int (0 : Int32)), (.int (0 : Int32)), (.int (0 : Int32)), (.int (0 : Int32)), (.int (0 : Int32))] (.int 0) := A250
    refine Wlk.dup (pc' := 32) at_31 rfl rfl ?_
    refine Wlk.iconst (pc' := 33) (v := (3 : Int32)) at_32 rfl rfl ?_
    refine Wlk.bipush (pc' := 35) (v := (103 : Int32)) at_33 (by decide) rfl ?_
    refine Wlk.castore (pc' := 36) (i := 3) at_35 A251 ⟨by decide, by decide⟩ rfl (Nat.le_of_ble_eq_true rfl) g236 rfl (fun h252 W253 A254 => ?_)
    have A255 : Arv Z h252 b232 kc234 .char (9 : Int32) [(.int (nar .char (115 : Int32))), (.int (nar .char (105 : Int32))), (.int (nar .char (110 : Int32))), (.int (nar .char (103 : Int32))), (.int (0 : Int32)), (.int (0 : Int32)), (.int (0 : Int32)), (.int (0 : Int32)), (.int (0 : Int32))] (.int 0) := A254
    refine Wlk.dup (pc' := 37) at_36 rfl rfl ?_
    refine Wlk.iconst (pc' := 38) (v := (4 : Int32)) at_37 rfl rfl ?_
    refine Wlk.bipush (pc' := 40) (v := (108 : Int32)) at_38 (by decide) rfl ?_
    refine Wlk.castore (pc' := 41) (i := 4) at_40 A255 ⟨by decide, by decide⟩ rfl (Nat.le_of_ble_eq_true rfl) g236 rfl (fun h256 W257 A258 => ?_)
    have A259 : Arv Z h256 b232 kc234 .char (9 : Int32) [(.int (nar .char (115 : Int32))), (.int (nar .char (105 : Int32))), (.int (nar .char (110 : Int32))), (.int (nar .char (103 : Int32))), (.int (nar .char (108 : Int32))), (.int (0 : Int32)), (.int (0 : Int32)), (.int (0 : Int32)), (.int (0 : Int32))] (.int 0) := A258
    refine Wlk.dup (pc' := 42) at_41 rfl rfl ?_
    refine Wlk.iconst (pc' := 43) (v := (5 : Int32)) at_42 rfl rfl ?_
    refine Wlk.bipush (pc' := 45) (v := (101 : Int32)) at_43 (by decide) rfl ?_
    refine Wlk.castore (pc' := 46) (i := 5) at_45 A259 ⟨by decide, by decide⟩ rfl (Nat.le_of_ble_eq_true rfl) g236 rfl (fun h260 W261 A262 => ?_)
    have A263 : Arv Z h260 b232 kc234 .char (9 : Int32) [(.int (nar .char (115 : Int32))), (.int (nar .char (105 : Int32))), (.int (nar .char (110 : Int32))), (.int (nar .char (103 : Int32))), (.int (nar .char (108 : Int32))), (.int (nar .char (101 : Int32))), (.int (0 : Int32)), (.int (0 : Int32)), (.int (0 : Int32))] (.int 0) := A262
    refine Wlk.dup (pc' := 47) at_46 rfl rfl ?_
    refine Wlk.bipush (pc' := 49) (v := (6 : Int32)) at_47 (by decide) rfl ?_
    refine Wlk.bipush (pc' := 51) (v := (116 : Int32)) at_49 (by decide) rfl ?_
    refine Wlk.castore (pc' := 52) (i := 6) at_51 A263 ⟨by decide, by decide⟩ rfl (Nat.le_of_ble_eq_true rfl) g236 rfl (fun h264 W265 A266 => ?_)
    have A267 : Arv Z h264 b232 kc234 .char (9 : Int32) [(.int (nar .char (115 : Int32))), (.int (nar .char (105 : Int32))), (.int (nar .char (110 : Int32))), (.int (nar .char (103 : Int32))), (.int (nar .char (108 : Int32))), (.int (nar .char (101 : Int32))), (.int (nar .char (116 : Int32))), (.int (0 : Int32)), (.int (0 : Int32))] (.int 0) := A266
    refine Wlk.dup (pc' := 53) at_52 rfl rfl ?_
    refine Wlk.bipush (pc' := 55) (v := (7 : Int32)) at_53 (by decide) rfl ?_
    refine Wlk.bipush (pc' := 57) (v := (111 : Int32)) at_55 (by decide) rfl ?_
    refine Wlk.castore (pc' := 58) (i := 7) at_57 A267 ⟨by decide, by decide⟩ rfl (Nat.le_of_ble_eq_true rfl) g236 rfl (fun h268 W269 A270 => ?_)
    have A271 : Arv Z h268 b232 kc234 .char (9 : Int32) [(.int (nar .char (115 : Int32))), (.int (nar .char (105 : Int32))), (.int (nar .char (110 : Int32))), (.int (nar .char (103 : Int32))), (.int (nar .char (108 : Int32))), (.int (nar .char (101 : Int32))), (.int (nar .char (116 : Int32))), (.int (nar .char (111 : Int32))), (.int (0 : Int32))] (.int 0) := A270
    refine Wlk.dup (pc' := 59) at_58 rfl rfl ?_
    refine Wlk.bipush (pc' := 61) (v := (8 : Int32)) at_59 (by decide) rfl ?_
    refine Wlk.bipush (pc' := 63) (v := (110 : Int32)) at_61 (by decide) rfl ?_
    refine Wlk.castore (pc' := 64) (i := 8) at_63 A271 ⟨by decide, by decide⟩ rfl (Nat.le_of_ble_eq_true rfl) g236 rfl (fun h272 W273 A274 => ?_)
    have A275 : Arv Z h272 b232 kc234 .char (9 : Int32) [(.int (nar .char (115 : Int32))), (.int (nar .char (105 : Int32))), (.int (nar .char (110 : Int32))), (.int (nar .char (103 : Int32))), (.int (nar .char (108 : Int32))), (.int (nar .char (101 : Int32))), (.int (nar .char (116 : Int32))), (.int (nar .char (111 : Int32))), (.int (nar .char (110 : Int32)))] (.int 0) := A274
    refine Wlk.astoreN (pc' := 65) (Ls' := #[.val (.int p1), .val (.int (1 : Int32)), .val (.ref b232), .unset, .unset, .unset, .unset]) at_64 rfl rfl rfl rfl ?_
    refine Wlk.bipush (pc' := 67) (v := (9 : Int32)) at_65 (by decide) rfl ?_
    refine Wlk.newP (pc' := 69) (ty := .char) (cap := 9) at_67 rfl (hw _ (List.mem_of_getElem? (i := 0) rfl)) (by decide) (by decide) (by decide) (by decide) (by decide) rfl (fun b276 h277 kc278 le279 g280 E281 A282 => ?_)
    have A283 : Arv Z h277 b276 kc278 .char (9 : Int32) [.int 0, .int 0, .int 0, .int 0, .int 0, .int 0, .int 0, .int 0, .int 0] (.int 0) := A282.pad (pad_rep [] (.int 0) 9)
    refine Wlk.dup (pc' := 70) at_69 rfl rfl ?_
    refine Wlk.iconst (pc' := 71) (v := (0 : Int32)) at_70 rfl rfl ?_
    refine Wlk.bipush (pc' := 73) (v := (112 : Int32)) at_71 (by decide) rfl ?_
    refine Wlk.castore (pc' := 74) (i := 0) at_73 A283 ⟨by decide, by decide⟩ rfl (Nat.le_of_ble_eq_true rfl) g280 rfl (fun h284 W285 A286 => ?_)
    have A287 : Arv Z h284 b276 kc278 .char (9 : Int32) [(.int (nar .char (112 : Int32))), (.int (0 : Int32)), (.int (0 : Int32)), (.int (0 : Int32)), (.int (0 : Int32)), (.int (0 : Int32)), (.int (0 : Int32)), (.int (0 : Int32)), (.int (0 : Int32))] (.int 0) := A286
    refine Wlk.dup (pc' := 75) at_74 rfl rfl ?_
    refine Wlk.iconst (pc' := 76) (v := (1 : Int32)) at_75 rfl rfl ?_
    refine Wlk.bipush (pc' := 78) (v := (114 : Int32)) at_76 (by decide) rfl ?_
    refine Wlk.castore (pc' := 79) (i := 1) at_78 A287 ⟨by decide, by decide⟩ rfl (Nat.le_of_ble_eq_true rfl) g280 rfl (fun h288 W289 A290 => ?_)
    have A291 : Arv Z h288 b276 kc278 .char (9 : Int32) [(.int (nar .char (112 : Int32))), (.int (nar .char (114 : Int32))), (.int (0 : Int32)), (.int (0 : Int32)), (.int (0 : Int32)), (.int (0 : Int32)), (.int (0 : Int32)), (.int (0 : Int32)), (.int (0 : Int32))] (.int 0) := A290
    refine Wlk.dup (pc' := 80) at_79 rfl rfl ?_
    refine Wlk.iconst (pc' := 81) (v := (2 : Int32)) at_80 rfl rfl ?_
    refine Wlk.bipush (pc' := 83) (v := (111 : Int32)) at_81 (by decide) rfl ?_
    refine Wlk.castore (pc' := 84) (i := 2) at_83 A291 ⟨by decide, by decide⟩ rfl (Nat.le_of_ble_eq_true rfl) g280 rfl (fun h292 W293 A294 => ?_)
    have A295 : Arv Z h292 b276 kc278 .char (9 : Int32) [(.int (nar .char (112 : Int32))), (.int (nar .char (114 : Int32))), (.int (nar .char (111 : Int32))), (.int (0 : Int32)), (.int (0 : Int32)), (.int (0 : Int32)), (.int (0 : Int32)), (.int (0 : Int32)), (.int (0 : Int32))] (.int 0) := A294
    refine Wlk.dup (pc' := 85) at_84 rfl rfl ?_
    refine Wlk.iconst (pc' := 86) (v := (3 : Int32)) at_85 rfl rfl ?_
    refine Wlk.bipush (pc' := 88) (v := (116 : Int32)) at_86 (by decide) rfl ?_
    refine Wlk.castore (pc' := 89) (i := 3) at_88 A295 ⟨by decide, by decide⟩ rfl (Nat.le_of_ble_eq_true rfl) g280 rfl (fun h296 W297 A298 => ?_)
    have A299 : Arv Z h296 b276 kc278 .char (9 : Int32) [(.int (nar .char (112 : Int32))), (.int (nar .char (114 : Int32))), (.int (nar .char (111 : Int32))), (.int (nar .char (116 : Int32))), (.int (0 : Int32)), (.int (0 : Int32)), (.int (0 : Int32)), (.int (0 : Int32)), (.int (0 : Int32))] (.int 0) := A298
    refine Wlk.dup (pc' := 90) at_89 rfl rfl ?_
    refine Wlk.iconst (pc' := 91) (v := (4 : Int32)) at_90 rfl rfl ?_
    refine Wlk.bipush (pc' := 93) (v := (111 : Int32)) at_91 (by decide) rfl ?_
    refine Wlk.castore (pc' := 94) (i := 4) at_93 A299 ⟨by decide, by decide⟩ rfl (Nat.le_of_ble_eq_true rfl) g280 rfl (fun h300 W301 A302 => ?_)
    have A303 : Arv Z h300 b276 kc278 .char (9 : Int32) [(.int (nar .char (112 : Int32))), (.int (nar .char (114 : Int32))), (.int (nar .char (111 : Int32))), (.int (nar .char (116 : Int32))), (.int (nar .char (111 : Int32))), (.int (0 : Int32)), (.int (0 : Int32)), (.int (0 : Int32)), (.int (0 : Int32))] (.int 0) := A302
    refine Wlk.dup (pc' := 95) at_94 rfl rfl ?_
    refine Wlk.iconst (pc' := 96) (v := (5 : Int32)) at_95 rfl rfl ?_
    refine Wlk.bipush (pc' := 98) (v := (116 : Int32)) at_96 (by decide) rfl ?_
    refine Wlk.castore (pc' := 99) (i := 5) at_98 A303 ⟨by decide, by decide⟩ rfl (Nat.le_of_ble_eq_true rfl) g280 rfl (fun h304 W305 A306 => ?_)
    have A307 : Arv Z h304 b276 kc278 .char (9 : Int32) [(.int (nar .char (112 : Int32))), (.int (nar .char (114 : Int32))), (.int (nar .char (111 : Int32))), (.int (nar .char (116 : Int32))), (.int (nar .char (111 : Int32))), (.int (nar .char (116 : Int32))), (.int (0 : Int32)), (.int (0 : Int32)), (.int (0 : Int32))] (.int 0) := A306
    refine Wlk.dup (pc' := 100) at_99 rfl rfl ?_
    refine Wlk.bipush (pc' := 102) (v := (6 : Int32)) at_100 (by decide) rfl ?_
    refine Wlk.bipush (pc' := 104) (v := (121 : Int32)) at_102 (by decide) rfl ?_
    refine Wlk.castore (pc' := 105) (i := 6) at_104 A307 ⟨by decide, by decide⟩ rfl (Nat.le_of_ble_eq_true rfl) g280 rfl (fun h308 W309 A310 => ?_)
    have A311 : Arv Z h308 b276 kc278 .char (9 : Int32) [(.int (nar .char (112 : Int32))), (.int (nar .char (114 : Int32))), (.int (nar .char (111 : Int32))), (.int (nar .char (116 : Int32))), (.int (nar .char (111 : Int32))), (.int (nar .char (116 : Int32))), (.int (nar .char (121 : Int32))), (.int (0 : Int32)), (.int (0 : Int32))] (.int 0) := A310
    refine Wlk.dup (pc' := 106) at_105 rfl rfl ?_
    refine Wlk.bipush (pc' := 108) (v := (7 : Int32)) at_106 (by decide) rfl ?_
    refine Wlk.bipush (pc' := 110) (v := (112 : Int32)) at_108 (by decide) rfl ?_
    refine Wlk.castore (pc' := 111) (i := 7) at_110 A311 ⟨by decide, by decide⟩ rfl (Nat.le_of_ble_eq_true rfl) g280 rfl (fun h312 W313 A314 => ?_)
    have A315 : Arv Z h312 b276 kc278 .char (9 : Int32) [(.int (nar .char (112 : Int32))), (.int (nar .char (114 : Int32))), (.int (nar .char (111 : Int32))), (.int (nar .char (116 : Int32))), (.int (nar .char (111 : Int32))), (.int (nar .char (116 : Int32))), (.int (nar .char (121 : Int32))), (.int (nar .char (112 : Int32))), (.int (0 : Int32))] (.int 0) := A314
    refine Wlk.dup (pc' := 112) at_111 rfl rfl ?_
    refine Wlk.bipush (pc' := 114) (v := (8 : Int32)) at_112 (by decide) rfl ?_
    refine Wlk.bipush (pc' := 116) (v := (101 : Int32)) at_114 (by decide) rfl ?_
    refine Wlk.castore (pc' := 117) (i := 8) at_116 A315 ⟨by decide, by decide⟩ rfl (Nat.le_of_ble_eq_true rfl) g280 rfl (fun h316 W317 A318 => ?_)
    have A319 : Arv Z h316 b276 kc278 .char (9 : Int32) [(.int (nar .char (112 : Int32))), (.int (nar .char (114 : Int32))), (.int (nar .char (111 : Int32))), (.int (nar .char (116 : Int32))), (.int (nar .char (111 : Int32))), (.int (nar .char (116 : Int32))), (.int (nar .char (121 : Int32))), (.int (nar .char (112 : Int32))), (.int (nar .char (101 : Int32)))] (.int 0) := A318
    refine Wlk.astoreN (pc' := 118) (Ls' := #[.val (.int p1), .val (.int (1 : Int32)), .val (.ref b232), .val (.ref b276), .unset, .unset, .unset]) at_117 rfl rfl rfl rfl ?_
    refine Wlk.iloadN (pc' := 119) (v := (1 : Int32)) at_118 rfl rfl ?_
    refine Wlk.ifF (pc' := 122) at_119 (show ¬ ((1 : Int32) = (0 : Int32)) from by decide) rfl ?_
    refine Wlk.newO (pc' := 125) (C := "java/lang/String") at_122 (hw _ (List.mem_of_getElem? (i := 1) rfl)) (hw _ (List.mem_of_getElem? (i := 2) rfl)) (hw _ (List.mem_of_getElem? (i := 3) rfl)) (by decide) (by decide) rfl (fun b320 h321 le322 g323 E324 A325 D326 => ?_)
    have F327 : Fld Z h321 b320 "java/lang/String" "coder" "B" (.int (0 : Int32)) := D326 (Or.inr (hw _ (List.mem_of_getElem? (i := 27) rfl))) (ty := .byte) (by decide)
    have F328 : Fld Z h321 b320 "java/lang/String" "value" "[B" .null := D326 (Or.inr (hw _ (List.mem_of_getElem? (i := 29) rfl))) (ty := (.array .byte)) (by decide)
    refine Wlk.dup (pc' := 126) at_125 rfl rfl ?_
    refine Wlk.aloadN (pc' := 127) (v := (.ref b232)) at_126 rfl rfl rfl ?_
    have c329 := (((((((((((A275.ext E281).other W285 (Nat.ne_of_lt (Nat.lt_of_lt_of_le A239.lt (Nat.le_trans (Nat.le_trans (Nat.le_trans (Nat.le_trans (Nat.le_trans (Nat.le_trans (Nat.le_trans (Nat.le_trans (Nat.le_trans (Nat.le_of_eq W241.size.symm) (Nat.le_of_eq W245.size.symm)) (Nat.le_of_eq W249.size.symm)) (Nat.le_of_eq W253.size.symm)) (Nat.le_of_eq W257.size.symm)) (Nat.le_of_eq W261.size.symm)) (Nat.le_of_eq W265.size.symm)) (Nat.le_of_eq W269.size.symm)) (Nat.le_of_eq W273.size.symm)) le279)))).other W289 (Nat.ne_of_lt (Nat.lt_of_lt_of_le A239.lt (Nat.le_trans (Nat.le_trans (Nat.le_trans (Nat.le_trans (Nat.le_trans (Nat.le_trans (Nat.le_trans (Nat.le_trans (Nat.le_trans (Nat.le_of_eq W241.size.symm) (Nat.le_of_eq W245.size.symm)) (Nat.le_of_eq W249.size.symm)) (Nat.le_of_eq W253.size.symm)) (Nat.le_of_eq W257.size.symm)) (Nat.le_of_eq W261.size.symm)) (Nat.le_of_eq W265.size.symm)) (Nat.le_of_eq W269.size.symm)) (Nat.le_of_eq W273.size.symm)) le279)))).other W293 (Nat.ne_of_lt (Nat.lt_of_lt_of_le A239.lt (Nat.le_trans (Nat.le_trans (Nat.le_trans (Nat.le_trans (Nat.le_trans (Nat.le_trans (Nat.le_trans (Nat.le_trans (Nat.le_trans (Nat.le_of_eq W241.size.symm) (Nat.le_of_eq W245.size.symm)) (Nat.le_of_eq W249.size.symm)) (Nat.le_of_eq W253.size.symm)) (Nat.le_of_eq W257.size.symm)) (Nat.le_of_eq W261.size.symm)) (Nat.le_of_eq W265.size.symm)) (Nat.le_of_eq W269.size.symm)) (Nat.le_of_eq W273.size.symm)) le279)))).other W297 (Nat.ne_of_lt (Nat.lt_of_lt_of_le A239.lt (Nat.le_trans (Nat.le_trans (Nat.le_trans (Nat.le_trans (Nat.le_trans (Nat.le_trans (Nat.le_trans (Nat.le_trans (Nat.le_trans (Nat.le_of_eq W241.size.symm) (Nat.le_of_eq W245.size.symm)) (Nat.le_of_eq W249.size.symm)) (Nat.le_of_eq W253.size.symm)) (Nat.le_of_eq W257.size.symm)) (Nat.le_of_eq W261.size.symm)) (Nat.le_of_eq W265.size.symm)) (Nat.le_of_eq W269.size.symm)) (Nat.le_of_eq W273.size.symm)) le279)))).other W301 (Nat.ne_of_lt (Nat.lt_of_lt_of_le A239.lt (Nat.le_trans (Nat.le_trans (Nat.le_trans (Nat.le_trans (Nat.le_trans (Nat.le_trans (Nat.le_trans (Nat.le_trans (Nat.le_trans (Nat.le_of_eq W241.size.symm) (Nat.le_of_eq W245.size.symm)) (Nat.le_of_eq W249.size.symm)) (Nat.le_of_eq W253.size.symm)) (Nat.le_of_eq W257.size.symm)) (Nat.le_of_eq W261.size.symm)) (Nat.le_of_eq W265.size.symm)) (Nat.le_of_eq W269.size.symm)) (Nat.le_of_eq W273.size.symm)) le279)))).other W305 (Nat.ne_of_lt (Nat.lt_of_lt_of_le A239.lt (Nat.le_trans (Nat.le_trans (Nat.le_trans (Nat.le_trans (Nat.le_trans (Nat.le_trans (Nat.le_trans (Nat.le_trans (Nat.le_trans (Nat.le_of_eq W241.size.symm) (Nat.le_of_eq W245.size.symm)) (Nat.le_of_eq W249.size.symm)) (Nat.le_of_eq W253.size.symm)) (Nat.le_of_eq W257.size.symm)) (Nat.le_of_eq W261.size.symm)) (Nat.le_of_eq W265.size.symm)) (Nat.le_of_eq W269.size.symm)) (Nat.le_of_eq W273.size.symm)) le279)))).other W309 (Nat.ne_of_lt (Nat.lt_of_lt_of_le A239.lt (Nat.le_trans (Nat.le_trans (Nat.le_trans (Nat.le_trans (Nat.le_trans (Nat.le_trans (Nat.le_trans (Nat.le_trans (Nat.le_trans (Nat.le_of_eq W241.size.symm) (Nat.le_of_eq W245.size.symm)) (Nat.le_of_eq W249.size.symm)) (Nat.le_of_eq W253.size.symm)) (Nat.le_of_eq W257.size.symm)) (Nat.le_of_eq W261.size.symm)) (Nat.le_of_eq W265.size.symm)) (Nat.le_of_eq W269.size.symm)) (Nat.le_of_eq W273.size.symm)) le279)))).other W313 (Nat.ne_of_lt (Nat.lt_of_lt_of_le A239.lt (Nat.le_trans (Nat.le_trans (Nat.le_trans (Nat.le_trans (Nat.le_trans (Nat.le_trans (Nat.le_trans (Nat.le_trans (Nat.le_trans (Nat.le_of_eq W241.size.symm) (Nat.le_of_eq W245.size.symm)) (Nat.le_of_eq W249.size.symm)) (Nat.le_of_eq W253.size.symm)) (Nat.le_of_eq W257.size.symm)) (Nat.le_of_eq W261.size.symm)) (Nat.le_of_eq W265.size.symm)) (Nat.le_of_eq W269.size.symm)) (Nat.le_of_eq W273.size.symm)) le279)))).other W317 (Nat.ne_of_lt (Nat.lt_of_lt_of_le A239.lt (Nat.le_trans (Nat.le_trans (Nat.le_trans (Nat.le_trans (Nat.le_trans (Nat.le_trans (Nat.le_trans (Nat.le_trans (Nat.le_trans (Nat.le_of_eq W241.size.symm) (Nat.le_of_eq W245.size.symm)) (Nat.le_of_eq W249.size.symm)) (Nat.le_of_eq W253.size.symm)) (Nat.le_of_eq W257.size.symm)) (Nat.le_of_eq W261.size.symm)) (Nat.le_of_eq W265.size.symm)) (Nat.le_of_eq W269.size.symm)) (Nat.le_of_eq W273.size.symm)) le279)))).ext E324)
    refine Wlk.callC (pc' := 130) (a := b320) (z := (⟨"java/lang/String", "<init>", "([C)V"⟩ : MethodName)) (argsL := [(.ref b232)]) (st := [(.ref b320)]) (W := 1) at_127 (hw _ (List.mem_of_getElem? (i := 4) rfl)) (hw _ (List.mem_of_getElem? (i := 5) rfl)) (hw _ (List.mem_of_getElem? (i := 3) rfl)) (hw _ (List.mem_of_getElem? (i := 6) rfl)) (by decide) rfl pd_8 rfl (st_ini1 hw b320 b232 _ _ kc234 [(nar .char (115 : Int32)), (nar .char (105 : Int32)), (nar .char (110 : Int32)), (nar .char (103 : Int32)), (nar .char (108 : Int32)), (nar .char (101 : Int32)), (nar .char (116 : Int32)), (nar .char (111 : Int32)), (nar .char (110 : Int32))] _ h321 A325 F328 F327 g323 c329 (Nat.le_of_ble_eq_true rfl) (Nat.le_of_ble_eq_true rfl) (by decide) zc O2 P3) (by decide) rfl (by decide) (by decide) (by decide) rfl rfl (fun v330 h331 J332 q333 => ?_)
    obtain ⟨rfl, K334, t335, le336, g337, S338⟩ := q333
    have S339 : StrL Z h331 b320 t335 sgL := S338
    show Wlk _ _ _ _ _ _ _ _ _ h331 4 31 130 #[.val (.int p1), .val (.int (1 : Int32)), .val (.ref b232), .val (.ref b276), .unset, .unset, .unset] [(.ref b320)]
    refine Wlk.goto (pc' := 141) at_130 (by decide) (by decide) ?_
    refine Wlk.astore (pc' := 143) (Ls' := #[.val (.int p1), .val (.int (1 : Int32)), .val (.ref b232), .val (.ref b276), .val (.ref b320), .unset, .unset]) at_141 rfl rfl rfl rfl ?_
    refine Wlk.aload (pc' := 145) (v := (.ref b320)) at_143 rfl rfl rfl ?_
    refine Wlk.callSw (pc' := 148) (z := (⟨"com/example/vesta/vesta/model/BeanScope", "named", "(Ljava/lang/String;)Lcom/example/vesta/vesta/model/BeanScope;"⟩ : MethodName)) (argsL := [(.ref b320)]) (st := []) (W := 0) at_145 (hw _ (List.mem_of_getElem? (i := 30) rfl)) (hw _ (List.mem_of_getElem? (i := 31) rfl)) (hw _ (List.mem_of_getElem? (i := 32) rfl)) (hw _ (List.mem_of_getElem? (i := 33) rfl)) (by decide) pd_9 rfl (rm_namedS hw b320 t335 va _ _ _ _ _ _ _ zc h331 S339 SV V0 VE VF O2 P3 G1 G2 G3 G4 wS) (by decide) rfl (by decide) (by decide) (by decide) rfl rfl (fun v340 h341 J342 q343 => ?_)
    obtain ⟨rfl, K344, rfl⟩ := q343
    show Wlk _ _ _ _ _ _ _ _ _ h341 7 53 148 #[.val (.int p1), .val (.int (1 : Int32)), .val (.ref b232), .val (.ref b276), .val (.ref b320), .unset, .unset] [(.ref sg)]
    refine Wlk.astore (pc' := 150) (Ls' := #[.val (.int p1), .val (.int (1 : Int32)), .val (.ref b232), .val (.ref b276), .val (.ref b320), .val (.ref sg), .unset]) at_148 rfl rfl rfl rfl ?_
    refine Wlk.iloadN (pc' := 151) (v := (1 : Int32)) at_150 rfl rfl ?_
    refine Wlk.ifF (pc' := 154) at_151 (show ¬ ((1 : Int32) = (0 : Int32)) from by decide) rfl ?_
    refine Wlk.getS (pc' := 157) (v := (.ref sg)) at_154 (hw _ (List.mem_of_getElem? (i := 71) rfl)) Via.refl SG rfl ?_
    refine Wlk.goto (pc' := 163) at_157 (by decide) (by decide) ?_
    refine Wlk.astore (pc' := 165) (Ls' := #[.val (.int p1), .val (.int (1 : Int32)), .val (.ref b232), .val (.ref b276), .val (.ref b320), .val (.ref sg), .val (.ref sg)]) at_163 rfl rfl rfl rfl ?_
    refine Wlk.aload (pc' := 167) (v := (.ref sg)) at_165 rfl rfl rfl ?_
    refine Wlk.aload (pc' := 169) (v := (.ref sg)) at_167 rfl rfl rfl ?_
    refine Wlk.acmp (pc' := 172) (same := true) at_169 rfl rfl (decide_eq_true rfl) (by decide) (by decide) ?_
    refine Wlk.iconst (pc' := 173) (v := (1 : Int32)) at_172 rfl rfl ?_
    refine Wlk.goto (pc' := 177) at_173 (by decide) (by decide) ?_
    refine Wlk.ireturnN (t := .boolean) at_177 rfl (by simp) (by decide) (by decide) ?_
    exact rfl

set_option maxRecDepth 65536 in
set_option maxHeartbeats 40000000 in
theorem comes_1 {Post : Tables → Env → Array Value → State → Outcome → State → Prop} (hpost : ∀ tb e args s v u, (limb_1_1.after args s (.returned v) u = true ∧ limb_1_2.after args s (.returned v) u = true ∧ True) → ReturnedEndW s (.returned v) u (Jvm.fieldLocs frame_1_writes args s ++ Jvm.arrayLocs frame_1_arrays args s ++ Jvm.staticLocs frame_1_statics s) 24 1216 → Post tb e args s (.returned v) u) :
    ArmFor flags0 classFile x code maxLocals ret World_1 tables_1 room_1 Calls_1 rest_1 Pre_1 Post := by
  intro l hfl _ _ p e ha hc hk s m args below hf hA hF happ hP
  obtain ⟨hcalls, hrest, hpre⟩ := hP
  obtain ⟨-, -, -, hnamed, -, -, -, hat⟩ := (Spec.applies_iff hf).mp happ
  obtain ⟨hg, hn⟩ := and_e (Cond.before_iff.mp (show (Jvm.Cond.and given_1 narrow_1).before args s = true from hpre))
  obtain ⟨gc, gr0⟩ := and_e hg
  obtain ⟨w0, rfl⟩ : ∃ w0 : Value, args = #[w0] := by
    have hs : args.size = 1 := by simpa [Cond.value, given_1] using gc
    obtain ⟨L⟩ := args
    match L, hs with
    | [w0], _ => exact ⟨w0, rfl⟩
  have hw := fun d (hd : d ∈ tables_1) => atoms_spec (ws := Jvm.Cond.code x code maxLocals ret :: tables_1) hat d (List.mem_cons_of_mem _ hd)
  have hfit : Fit s := fun {y c} hc i hi => by
    obtain ⟨ha, rfl⟩ := Array.getElem?_eq_some_iff.mp hc
    have q := List.all_eq_true.mp ((Array.all_eq_true_iff_forall_mem.mp hF) _ (Array.getElem_mem ha)) i (List.mem_range.mpr hi)
    simpa [Array.getElem?_eq_getElem hi] using q
  obtain ⟨hsets, hown0⟩ := atoms_of _ (rest_1_c_eq ▸ (show rest_1_c.before _ s = true from hrest))
  obtain ⟨i0, ei0⟩ := is_v gr0
  obtain rfl : w0 = (.int i0) := Option.some.inj ei0
  have hs1 := Cond.before_iff.mp (hsets _ (List.mem_of_getElem? (i := 1) rfl))
  obtain ⟨zc, ezc⟩ := is_v hs1
  have O2 : Sta s s.heap "java/lang/String" "COMPACT_STRINGS" "Z" (.int zc) := Sta.start ezc (Or.inl (hsets _ (List.mem_of_getElem? (i := 0) rfl)))
  have P3 : ¬ zc = 0 := fun q => by
    have hn0 := not_v (Cond.before_iff.mp (hsets _ (List.mem_of_getElem? (i := 2) rfl)))
    subst q
    have e1 := eq_i ezc (Term.int_eval (0)) rfl
    rw [e1] at hn0
    cases hn0
  obtain ⟨a1, hr0⟩ := and_e (show narrow_1.value _ s none s [] = some true from hn)
  obtain ⟨a2, hr1⟩ := and_e hr0
  obtain ⟨a3, hr2⟩ := and_e hr1
  obtain ⟨a4, hr3⟩ := and_e hr2
  obtain ⟨a5, hr4⟩ := and_e hr3
  obtain ⟨a6, hr5⟩ := and_e hr4
  obtain ⟨a7, hr6⟩ := and_e hr5
  obtain ⟨b1, hr7⟩ := and_e hr6
  obtain ⟨b2, hr8⟩ := and_e hr7
  obtain ⟨b3, hr9⟩ := and_e hr8
  obtain ⟨b4, hr10⟩ := and_e hr9
  obtain ⟨d1, hr11⟩ := and_e hr10
  obtain ⟨d2, hr12⟩ := and_e hr11
  obtain ⟨d3, hr13⟩ := and_e hr12
  obtain ⟨d4, hr14⟩ := and_e hr13
  obtain ⟨x0, hr15⟩ := and_e hr14
  obtain ⟨x1, hr16⟩ := and_e hr15
  obtain ⟨x2, hr17⟩ := and_e hr16
  obtain ⟨x3, hr18⟩ := and_e hr17
  obtain ⟨x4, hr19⟩ := and_e hr18
  obtain ⟨x5, hr20⟩ := and_e hr19
  obtain ⟨x6, hr21⟩ := and_e hr20
  obtain ⟨x7, hr22⟩ := and_e hr21
  obtain ⟨x8, hr23⟩ := and_e hr22
  obtain ⟨y0, hr24⟩ := and_e hr23
  obtain ⟨y1, hr25⟩ := and_e hr24
  obtain ⟨y2, hr26⟩ := and_e hr25
  obtain ⟨y3, hr27⟩ := and_e hr26
  obtain ⟨y4, hr28⟩ := and_e hr27
  obtain ⟨y5, hr29⟩ := and_e hr28
  obtain ⟨y6, hr30⟩ := and_e hr29
  obtain ⟨y7, hr31⟩ := and_e hr30
  have y8 := hr31
  obtain ⟨va, eva⟩ := exa_v a2
  obtain ⟨sg, esg⟩ := exa_v a4
  obtain ⟨pt, ept⟩ := exa_v a6
  have SV : Sta s s.heap "com/example/vesta/vesta/model/BeanScope" "$VALUES" "[Lcom/example/vesta/vesta/model/BeanScope;" (.ref va) := Sta.start eva (Or.inr ⟨hw _ (List.mem_of_getElem? (i := 32) rfl), hw _ (List.mem_of_getElem? (i := 45) rfl)⟩)
  have SG : Sta s s.heap "com/example/vesta/vesta/model/BeanScope" "SINGLETON" "Lcom/example/vesta/vesta/model/BeanScope;" (.ref sg) := Sta.start esg (Or.inr ⟨hw _ (List.mem_of_getElem? (i := 32) rfl), hw _ (List.mem_of_getElem? (i := 53) rfl)⟩)
  have SP : Sta s s.heap "com/example/vesta/vesta/model/BeanScope" "PROTOTYPE" "Lcom/example/vesta/vesta/model/BeanScope;" (.ref pt) := Sta.start ept (Or.inr ⟨hw _ (List.mem_of_getElem? (i := 32) rfl), hw _ (List.mem_of_getElem? (i := 54) rfl)⟩)
  obtain ⟨cva, Ava⟩ := Arr.start eva a1
  have V0 : Arv s s.heap va cva.cls (.object "com/example/vesta/vesta/model/BeanScope") 2 [(.ref sg), (.ref pt)] .null := by
    have e1 := Cond.eq_int (Cond.before_iff.mpr a3) rfl
    have h31 := SBG.length_lt eva (Ava.fin (Vm.Alike.refl _)) e1
    have e2 := (len_f (first := s) (o := none) (idx := []) eva (Ava.fin (Vm.Alike.refl _)) h31).symm.trans e1
    have e3 : cva.slots.size.toInt32 = 2 := by injection e2 with e2; injection e2
    exact Arv.start hfit Ava h31 e3 (by decide) rfl ⟨(elem_in (own_eqref a5 esg) eva (Term.int_eval _) Ava.1).2, (elem_in (own_eqref a7 ept) eva (Term.int_eval _) Ava.1).2, trivial⟩
  have VE : Exa s s.heap va "[Lcom/example/vesta/vesta/model/BeanScope;" := Exa.start eva a2
  have VF : ∀ cl : Cell, s.heap[va]? = some cl → FitC s cl := fun cl q => by
    cases q.symm.trans Ava.1
    exact FitC.start hfit Ava
  obtain ⟨gs, egs⟩ := exa_v b1
  have G1 : Fld s s.heap sg "com/example/vesta/vesta/model/BeanScope" "written" "Ljava/lang/String;" (.ref gs) := Fld.start ((fld_at esg).symm.trans egs)
  obtain ⟨tg, etg⟩ := arr_v b3
  obtain ⟨ctg, Atg⟩ := Arr.start etg b3
  have Vtg : Arv s s.heap tg ctg.cls .byte 9 [.int 115, .int 105, .int 110, .int 103, .int 108, .int 101, .int 116, .int 111, .int 110] (.int 0) := by
    have e1 := Cond.eq_int (Cond.before_iff.mpr b4) rfl
    have h31 := SBG.length_lt etg (Atg.fin (Vm.Alike.refl _)) e1
    have e2 := (len_f (first := s) (o := none) (idx := []) etg (Atg.fin (Vm.Alike.refl _)) h31).symm.trans e1
    have e3 : ctg.slots.size.toInt32 = 9 := by injection e2 with e2; injection e2
    exact Arv.start hfit Atg h31 e3 (by decide) rfl ⟨(elem_in (Cond.eq_int (Cond.before_iff.mpr x0) rfl) etg (Term.int_eval _) Atg.1).2, (elem_in (Cond.eq_int (Cond.before_iff.mpr x1) rfl) etg (Term.int_eval _) Atg.1).2, (elem_in (Cond.eq_int (Cond.before_iff.mpr x2) rfl) etg (Term.int_eval _) Atg.1).2, (elem_in (Cond.eq_int (Cond.before_iff.mpr x3) rfl) etg (Term.int_eval _) Atg.1).2, (elem_in (Cond.eq_int (Cond.before_iff.mpr x4) rfl) etg (Term.int_eval _) Atg.1).2, (elem_in (Cond.eq_int (Cond.before_iff.mpr x5) rfl) etg (Term.int_eval _) Atg.1).2, (elem_in (Cond.eq_int (Cond.before_iff.mpr x6) rfl) etg (Term.int_eval _) Atg.1).2, (elem_in (Cond.eq_int (Cond.before_iff.mpr x7) rfl) etg (Term.int_eval _) Atg.1).2, (elem_in (Cond.eq_int (Cond.before_iff.mpr x8) rfl) etg (Term.int_eval _) Atg.1).2, trivial⟩
  have G2 : StrL s s.heap gs tg sgL := ⟨Exa.start egs b1, Fld.start ((fld_at egs).symm.trans etg), Fld.start ((fld_at egs).symm.trans (Cond.eq_int (Cond.before_iff.mpr b2) rfl)), _, Vtg⟩
  obtain ⟨ps, eps⟩ := exa_v d1
  have G3 : Fld s s.heap pt "com/example/vesta/vesta/model/BeanScope" "written" "Ljava/lang/String;" (.ref ps) := Fld.start ((fld_at ept).symm.trans eps)
  obtain ⟨tp, etp⟩ := arr_v d3
  obtain ⟨ctp, Atp⟩ := Arr.start etp d3
  have Vtp : Arv s s.heap tp ctp.cls .byte 9 [.int 112, .int 114, .int 111, .int 116, .int 111, .int 116, .int 121, .int 112, .int 101] (.int 0) := by
    have e1 := Cond.eq_int (Cond.before_iff.mpr d4) rfl
    have h31 := SBG.length_lt etp (Atp.fin (Vm.Alike.refl _)) e1
    have e2 := (len_f (first := s) (o := none) (idx := []) etp (Atp.fin (Vm.Alike.refl _)) h31).symm.trans e1
    have e3 : ctp.slots.size.toInt32 = 9 := by injection e2 with e2; injection e2
    exact Arv.start hfit Atp h31 e3 (by decide) rfl ⟨(elem_in (Cond.eq_int (Cond.before_iff.mpr y0) rfl) etp (Term.int_eval _) Atp.1).2, (elem_in (Cond.eq_int (Cond.before_iff.mpr y1) rfl) etp (Term.int_eval _) Atp.1).2, (elem_in (Cond.eq_int (Cond.before_iff.mpr y2) rfl) etp (Term.int_eval _) Atp.1).2, (elem_in (Cond.eq_int (Cond.before_iff.mpr y3) rfl) etp (Term.int_eval _) Atp.1).2, (elem_in (Cond.eq_int (Cond.before_iff.mpr y4) rfl) etp (Term.int_eval _) Atp.1).2, (elem_in (Cond.eq_int (Cond.before_iff.mpr y5) rfl) etp (Term.int_eval _) Atp.1).2, (elem_in (Cond.eq_int (Cond.before_iff.mpr y6) rfl) etp (Term.int_eval _) Atp.1).2, (elem_in (Cond.eq_int (Cond.before_iff.mpr y7) rfl) etp (Term.int_eval _) Atp.1).2, (elem_in (Cond.eq_int (Cond.before_iff.mpr y8) rfl) etp (Term.int_eval _) Atp.1).2, trivial⟩
  have G4 : StrL s s.heap ps tp ptL := ⟨Exa.start eps d1, Fld.start ((fld_at eps).symm.trans etp), Fld.start ((fld_at eps).symm.trans (Cond.eq_int (Cond.before_iff.mpr d2) rfl)), _, Vtp⟩
  have wS : ∀ a ∈ Bundle.stringAtoms, a.before _ s = true := fun d hd => hw d ((by decide +kernel : ∀ d ∈ Bundle.stringAtoms, d ∈ tables_1) d hd)
  obtain ⟨n, o, h1, h2, h3, v, L, J', rfl, ⟨hQ, N, -, -⟩, hq, hq'⟩ := rm_law (l := l) (Z := s) hw tables_1 i0 s.heap zc O2 P3 va sg pt gs tg ps tp _ SV SG SP V0 VE VF G1 G2 G3 G4 wS p e ha hc hk s m _ below hf ((Spec.applies_iff_loose hf).mp happ).1 ⟨rfl, State.Warmed39.refl s, rfl, ⟨Nat.le_refl _, fun _ _ q => q⟩, fun _ => nofun⟩ trivial
  obtain rfl := hQ
  refine ⟨n, _, h1, h2, h3, hpost _ _ _ _ _ _ ⟨Cond.after_iff.mpr rfl, Cond.after_iff.mpr (eq_i res_at (Term.int_eval (1)) rfl), trivial⟩ ⟨⟨_, rfl⟩, hq.2.1, hq.2.2.1, (hq.2.2.2.sift fun y hy => Or.inr (N y hy)).mono (by decide) (by decide)⟩⟩
theorem main_1_1 : Claimed_1_1 := comes_1 fun _ _ _ _ _ _ h hF => ⟨h.1, hF⟩
theorem main_1_2 : Claimed_1_2 := comes_1 fun _ _ _ _ _ _ h hF => ⟨h.2.1, hF⟩

end Jvm.Pilot.@@N@@
namespace Jvm.Pilot.@@N@@
open Jvm Jvm.ClassFile Sem Op Lib Jvm.Free Jvm.Stand Jvm.Pilot.@@N@@.Jvm.D
/-! MADE BY PROGRAM (witnessworld.py) out of the Statement's table words and the real class files: 23 classes; the members and pool entries that the words name. The judged class is class 1, her method 1. -/
namespace start1
open Jvm.ClassFile
def u (s : String) : CpInfo := .utf8 (stringToUtf16 s)
/-- a pool by its gaps: so many unusable entries, then the entry; so many at the end -/
def gap : Nat → List CpInfo → List CpInfo
  | 0, r => r
  | n + 1, r => .unusable :: gap n r
def poolList (es : List (Nat × CpInfo)) (last : Nat) : List CpInfo := es.foldr (fun e r => gap e.1 (e.2 :: r)) (gap last [])
def pool (es : List (Nat × CpInfo)) (last : Nat) : Array CpInfo := ⟨poolList es last⟩
def fileOf (pool : Array CpInfo) (this : Nat) (attrs : Array Attribute := #[]) (ms : Array MethodInfo := #[]) (fl : Nat := 33) (sup : Nat := 0) (ifs : Array Nat := #[]) (fds : Array FieldInfo := #[]) : ClassFile where
  minorVersion := 0
  majorVersion := 65
  constantPool := pool
  accessFlags := fl
  thisClass := this
  superClass := sup
  interfaces := ifs
  fields := fds
  methods := ms
  attributes := attrs
def plain (name : String) (sup : Option ClassId) : Class where
  name := name
  kind := .ordinary
  loader := none
  accessFlags := 33
  super := sup
  interfaces := #[]
  cf := none
  fields := #[]
  methods := #[]
  instanceTypes := #[]
  staticTypes := #[]
  resolved := #[]
  callSites := []
  init := .initialized
  statics := none
  mirror := none

def pool0 : Array CpInfo := pool [(5, u "<init>"), (0, u "()V"), (1, .class_ 10), (1, u "java/lang/Object"), (85, u "clone"), (0, u "()Ljava/lang/Object;")] 26

def k0c0 : Code := { maxStack := 0, maxLocals := 1, code := object_method_1_code, exceptionTable := #[], attributes := #[] }
def k0m0 : Method := { name := "<init>", desc := "()V", sig := { parameters := [], returnType := none }, accessFlags := 1, code := some k0c0 }
def k0m1 : Method := { name := "clone", desc := "()Ljava/lang/Object;", sig := { parameters := [], returnType := some (.object "java/lang/Object") }, accessFlags := 260, code := none }
/-- java/lang/Object -/
def k0 : Class := { plain "java/lang/Object" none with
  accessFlags := 33
  interfaces := #[]
  cf := some (fileOf pool0 8 #[] #[{ accessFlags := 1, nameIndex := 5, descriptorIndex := 6, attributes := #[] }, { accessFlags := 260, nameIndex := 96, descriptorIndex := 97, attributes := #[] }] 33 0 #[] #[])
  fields := #[]
  methods := #[k0m0, k0m1]
  instanceTypes := #[]
  staticTypes := #[]
  resolved := Array.replicate 124 none
  statics := none }

def pool1 : Array CpInfo := pool [(2, .class_ 4), (1, u "java/lang/Object"), (0, u "<init>"), (0, u "()V"), (0, .class_ 8), (0, u "java/lang/String"), (0, .methodref 7 10), (0, .nameAndType 5 11), (0, u "([C)V"), (0, .methodref 13 14), (0, .class_ 15), (0, .nameAndType 16 17), (0, u "com/example/vesta/vesta/model/BeanScope"), (0, u "named"), (0, u "(Ljava/lang/String;)Lcom/example/vesta/vesta/model/BeanScope;"), (0, .fieldref 13 19), (0, .nameAndType 20 21), (0, u "SINGLETON"), (0, u "Lcom/example/vesta/vesta/model/BeanScope;"), (0, .fieldref 13 23), (0, .nameAndType 24 21), (0, u "PROTOTYPE"), (0, .class_ 26), (0, u "com/example/vesta/vesta/model/BeanScopeNamedPinLaw"), (2, u "law"), (0, u "(I)Z")] 5

def k1m0 : Method := { name := "<init>", desc := "()V", sig := { parameters := [], returnType := none }, accessFlags := 1, code := none }
def k1c1 : Code := { maxStack := 4, maxLocals := 7, code := code, exceptionTable := #[], attributes := #[] }
def k1m1 : Method := { name := "law", desc := "(I)Z", sig := { parameters := [.int], returnType := some .boolean }, accessFlags := 9, code := some k1c1 }
/-- com/example/vesta/vesta/model/BeanScopeNamedPinLaw -/
def k1 : Class := { plain "com/example/vesta/vesta/model/BeanScopeNamedPinLaw" (some 0) with
  accessFlags := 49
  interfaces := #[]
  cf := some (fileOf pool1 25 #[] #[{ accessFlags := 1, nameIndex := 5, descriptorIndex := 6, attributes := #[] }, { accessFlags := 9, nameIndex := 29, descriptorIndex := 30, attributes := #[] }] 49 2 #[] #[])
  fields := #[]
  methods := #[k1m0, k1m1]
  instanceTypes := #[]
  staticTypes := #[]
  resolved := Array.replicate 36 none
  statics := none }

def pool2 : Array CpInfo := pool [(1, .class_ 2), (0, u "java/io/Serializable"), (0, .class_ 4), (0, u "java/lang/Object")] 2

/-- java/io/Serializable -/
def k2 : Class := { plain "java/io/Serializable" (some 0) with
  accessFlags := 1537
  interfaces := #[]
  cf := some (fileOf pool2 1 #[] #[] 1537 3 #[] #[])
  fields := #[]
  methods := #[]
  instanceTypes := #[]
  staticTypes := #[]
  resolved := Array.replicate 7 none
  statics := none }

def pool3 : Array CpInfo := pool [(1, .class_ 2), (0, u "java/lang/Comparable"), (0, .class_ 4), (0, u "java/lang/Object")] 7

/-- java/lang/Comparable -/
def k3 : Class := { plain "java/lang/Comparable" (some 0) with
  accessFlags := 1537
  interfaces := #[]
  cf := some (fileOf pool3 1 #[] #[] 1537 3 #[] #[])
  fields := #[]
  methods := #[]
  instanceTypes := #[]
  staticTypes := #[]
  resolved := Array.replicate 12 none
  statics := none }

def pool4 : Array CpInfo := pool [(2, .class_ 4), (1, u "java/lang/CharSequence"), (42, .class_ 48), (0, u "java/lang/CharSequence$1CodePointIterator"), (10, .class_ 60), (0, u "java/lang/CharSequence$1CharIterator"), (5, .class_ 67), (0, u "java/lang/Object")] 63

/-- java/lang/CharSequence -/
def k4 : Class := { plain "java/lang/CharSequence" (some 0) with
  accessFlags := 1537
  interfaces := #[]
  cf := some (fileOf pool4 2 #[.nestMembers #[47, 59]] #[] 1537 66 #[] #[])
  fields := #[]
  methods := #[]
  instanceTypes := #[]
  staticTypes := #[]
  resolved := Array.replicate 131 none
  statics := none }

def pool5 : Array CpInfo := pool [(1, .class_ 2), (0, u "java/lang/constant/Constable"), (0, .class_ 4), (0, u "java/lang/Object")] 6

/-- java/lang/constant/Constable -/
def k5 : Class := { plain "java/lang/constant/Constable" (some 0) with
  accessFlags := 1537
  interfaces := #[]
  cf := some (fileOf pool5 1 #[] #[] 1537 3 #[] #[])
  fields := #[]
  methods := #[]
  instanceTypes := #[]
  staticTypes := #[]
  resolved := Array.replicate 11 none
  statics := none }

def pool6 : Array CpInfo := pool [(1, .class_ 2), (0, u "java/lang/constant/ConstantDesc"), (0, .class_ 4), (0, u "java/lang/Object")] 32

/-- java/lang/constant/ConstantDesc -/
def k6 : Class := { plain "java/lang/constant/ConstantDesc" (some 0) with
  accessFlags := 1537
  interfaces := #[]
  cf := some (fileOf pool6 1 #[] #[] 1537 3 #[] #[])
  fields := #[]
  methods := #[]
  instanceTypes := #[]
  staticTypes := #[]
  resolved := Array.replicate 37 none
  statics := none }

def pool7 : Array CpInfo := pool [(1, .methodref 2 3), (0, .class_ 4), (0, .nameAndType 5 6), (0, u "java/lang/Object"), (0, u "<init>"), (0, u "()V"), (2, .fieldref 10 11), (0, .class_ 12), (0, .nameAndType 13 14), (0, u "java/lang/String"), (0, u "value"), (0, u "[B"), (0, .fieldref 10 16), (0, .nameAndType 17 18), (0, u "coder"), (0, u "B"), (2, u "hash"), (0, u "I"), (2, u "hashIsZero"), (0, u "Z"), (0, .methodref 10 28), (0, .nameAndType 5 29), (0, u "([CIILjava/lang/Void;)V"), (8, .fieldref 10 39), (0, .nameAndType 40 26), (0, u "COMPACT_STRINGS"), (1, .class_ 44), (1, u "java/lang/StringUTF16"), (0, u "compress"), (1, .methodref 42 48), (0, .nameAndType 49 50), (0, u "coderFromArrayLen"), (0, u "([BI)B"), (56, .class_ 109), (1, u "java/lang/StringLatin1"), (67, .methodref 42 178), (0, .nameAndType 45 179), (0, u "([CII)[B"), (361, .methodref 107 542), (0, .nameAndType 543 544), (0, u "equals"), (0, u "([B[B)Z"), (28, u "(Ljava/lang/Object;)Z"), (1, .class_ 576), (0, u "java/lang/CharSequence"), (22, u "CASE_INSENSITIVE_ORDER"), (0, u "Ljava/util/Comparator;"), (409, u "([C)V"), (90, u "serialPersistentFields"), (0, u "[Ljava/io/ObjectStreamField;"), (0, .class_ 1104), (0, u "java/lang/String$CaseInsensitiveComparator"), (1, .class_ 1107), (0, u "java/io/Serializable"), (0, .class_ 1109), (0, u "java/lang/Comparable"), (0, .class_ 1111), (0, u "java/lang/constant/Constable"), (0, .class_ 1113), (0, u "java/lang/constant/ConstantDesc"), (2, u "serialVersionUID"), (0, u "J"), (3, u "REPL"), (0, u "C"), (2, u "LATIN1"), (1, u "UTF16")] 323

def k7m0 : Method := { name := "<init>", desc := "()V", sig := { parameters := [], returnType := none }, accessFlags := 1, code := none }
def k7c1 : Code := { maxStack := 5, maxLocals := 2, code := jdk_42_method_3_code, exceptionTable := #[], attributes := #[] }
def k7m1 : Method := { name := "<init>", desc := "([C)V", sig := { parameters := [(.array .char)], returnType := none }, accessFlags := 1, code := some k7c1 }
def k7c2 : Code := { maxStack := 2, maxLocals := 3, code := jdk_42_method_66_code, exceptionTable := #[], attributes := #[] }
def k7m2 : Method := { name := "equals", desc := "(Ljava/lang/Object;)Z", sig := { parameters := [(.object "java/lang/Object")], returnType := some .boolean }, accessFlags := 1, code := some k7c2 }
def k7c3 : Code := { maxStack := 4, maxLocals := 6, code := jdk_42_method_149_code, exceptionTable := #[], attributes := #[] }
def k7m3 : Method := { name := "<init>", desc := "([CIILjava/lang/Void;)V", sig := { parameters := [(.array .char), .int, .int, (.object "java/lang/Void")], returnType := none }, accessFlags := 2, code := some k7c3 }
/-- java/lang/String -/
def k7 : Class := { plain "java/lang/String" (some 0) with
  accessFlags := 49
  interfaces := #[2, 3, 4, 5, 6]
  cf := some (fileOf pool7 10 #[.nestMembers #[1103]] #[{ accessFlags := 1, nameIndex := 5, descriptorIndex := 6, attributes := #[] }, { accessFlags := 1, nameIndex := 5, descriptorIndex := 1010, attributes := #[] }, { accessFlags := 1, nameIndex := 543, descriptorIndex := 573, attributes := #[] }, { accessFlags := 2, nameIndex := 5, descriptorIndex := 29, attributes := #[] }] 49 2 #[1106, 1108, 575, 1110, 1112] #[{ accessFlags := 18, nameIndex := 13, descriptorIndex := 14, attributes := #[] }, { accessFlags := 18, nameIndex := 17, descriptorIndex := 18, attributes := #[] }, { accessFlags := 2, nameIndex := 21, descriptorIndex := 22, attributes := #[] }, { accessFlags := 2, nameIndex := 25, descriptorIndex := 26, attributes := #[] }, { accessFlags := 26, nameIndex := 1116, descriptorIndex := 1117, attributes := #[] }, { accessFlags := 24, nameIndex := 40, descriptorIndex := 26, attributes := #[] }, { accessFlags := 26, nameIndex := 1101, descriptorIndex := 1102, attributes := #[] }, { accessFlags := 26, nameIndex := 1121, descriptorIndex := 1122, attributes := #[] }, { accessFlags := 25, nameIndex := 599, descriptorIndex := 600, attributes := #[] }, { accessFlags := 24, nameIndex := 1125, descriptorIndex := 18, attributes := #[] }, { accessFlags := 24, nameIndex := 1127, descriptorIndex := 18, attributes := #[] }])
  fields := #[{ name := "value", type := (.array .byte), accessFlags := 18, slot := 0, constantValue := 0 }, { name := "coder", type := .byte, accessFlags := 18, slot := 1, constantValue := 0 }, { name := "hash", type := .int, accessFlags := 2, slot := 2, constantValue := 0 }, { name := "hashIsZero", type := .boolean, accessFlags := 2, slot := 3, constantValue := 0 }, { name := "serialVersionUID", type := .long, accessFlags := 26, slot := 0, constantValue := 0 }, { name := "COMPACT_STRINGS", type := .boolean, accessFlags := 24, slot := 1, constantValue := 0 }, { name := "serialPersistentFields", type := (.array (.object "java/io/ObjectStreamField")), accessFlags := 26, slot := 2, constantValue := 0 }, { name := "REPL", type := .char, accessFlags := 26, slot := 3, constantValue := 0 }, { name := "CASE_INSENSITIVE_ORDER", type := (.object "java/util/Comparator"), accessFlags := 25, slot := 4, constantValue := 0 }, { name := "LATIN1", type := .byte, accessFlags := 24, slot := 5, constantValue := 0 }, { name := "UTF16", type := .byte, accessFlags := 24, slot := 6, constantValue := 0 }]
  methods := #[k7m0, k7m1, k7m2, k7m3]
  instanceTypes := #[(.array .byte), .byte, .int, .boolean]
  staticTypes := #[.long, .boolean, (.array (.object "java/io/ObjectStreamField")), .char, (.object "java/util/Comparator"), .byte, .byte]
  resolved := Array.replicate 1451 none
  statics := some 0 }

def pool8 : Array CpInfo := pool [(6, .class_ 8), (1, u "java/lang/Object"), (0, u "<init>"), (0, u "()V"), (1, .class_ 14), (1, u "java/lang/StringUTF16"), (31, u "$assertionsDisabled"), (0, u "Z"), (13, u "HI_BYTE_SHIFT"), (0, u "I"), (2, u "LO_BYTE_SHIFT"), (49, .methodref 12 116), (0, .nameAndType 117 118), (0, u "compress"), (0, u "([CI[BII)I"), (3, u "([CII)[B"), (138, u "coderFromArrayLen"), (0, u "([BI)B"), (106, .class_ 371), (1, u "java/lang/StringUTF16$LinesSpliterator"), (58, u "MAX_LENGTH"), (196, .class_ 628), (0, u "java/lang/StringUTF16$CodePointsSpliterator"), (0, .class_ 630), (0, u "java/lang/StringUTF16$CharsSpliterator")] 4

def k8m0 : Method := { name := "<init>", desc := "()V", sig := { parameters := [], returnType := none }, accessFlags := 0, code := none }
def k8c1 : Code := { maxStack := 2, maxLocals := 2, code := jdk_52_method_15_code, exceptionTable := #[], attributes := #[] }
def k8m1 : Method := { name := "coderFromArrayLen", desc := "([BI)B", sig := { parameters := [(.array .byte), .int], returnType := some .byte }, accessFlags := 8, code := some k8c1 }
def k8c2 : Code := { maxStack := 5, maxLocals := 6, code := jdk_52_method_16_code, exceptionTable := #[], attributes := #[] }
def k8m2 : Method := { name := "compress", desc := "([CII)[B", sig := { parameters := [(.array .char), .int, .int], returnType := some (.array .byte) }, accessFlags := 9, code := some k8c2 }
def k8c3 : Code := { maxStack := 3, maxLocals := 7, code := jdk_52_method_21_code, exceptionTable := #[], attributes := #[] }
def k8m3 : Method := { name := "compress", desc := "([CI[BII)I", sig := { parameters := [(.array .char), .int, (.array .byte), .int, .int], returnType := some .int }, accessFlags := 9, code := some k8c3 }
/-- java/lang/StringUTF16 -/
def k8 : Class := { plain "java/lang/StringUTF16" (some 0) with
  accessFlags := 48
  interfaces := #[]
  cf := some (fileOf pool8 12 #[.nestMembers #[627, 629, 369]] #[{ accessFlags := 0, nameIndex := 9, descriptorIndex := 10, attributes := #[] }, { accessFlags := 8, nameIndex := 261, descriptorIndex := 262, attributes := #[] }, { accessFlags := 9, nameIndex := 117, descriptorIndex := 122, attributes := #[] }, { accessFlags := 9, nameIndex := 117, descriptorIndex := 118, attributes := #[] }] 48 6 #[] #[{ accessFlags := 26, nameIndex := 61, descriptorIndex := 62, attributes := #[] }, { accessFlags := 26, nameIndex := 65, descriptorIndex := 62, attributes := #[] }, { accessFlags := 24, nameIndex := 430, descriptorIndex := 62, attributes := #[] }, { accessFlags := 4120, nameIndex := 46, descriptorIndex := 47, attributes := #[] }])
  fields := #[{ name := "HI_BYTE_SHIFT", type := .int, accessFlags := 26, slot := 0, constantValue := 0 }, { name := "LO_BYTE_SHIFT", type := .int, accessFlags := 26, slot := 1, constantValue := 0 }, { name := "MAX_LENGTH", type := .int, accessFlags := 24, slot := 2, constantValue := 0 }, { name := "$assertionsDisabled", type := .boolean, accessFlags := 4120, slot := 3, constantValue := 0 }]
  methods := #[k8m0, k8m1, k8m2, k8m3]
  instanceTypes := #[]
  staticTypes := #[.int, .int, .int, .boolean]
  resolved := Array.replicate 635 none
  statics := none }

def pool9 : Array CpInfo := pool [(2, .class_ 4), (1, u "java/lang/Enum"), (0, u "name"), (0, u "Ljava/lang/String;"), (2, u "ordinal"), (0, u "I"), (1, .class_ 14), (1, u "java/lang/Object"), (4, u "hash"), (86, .class_ 108), (1, u "java/lang/Enum$EnumDesc"), (2, .class_ 112), (0, u "java/lang/constant/Constable"), (0, .class_ 114), (0, u "java/lang/Comparable"), (0, .class_ 116), (0, u "java/io/Serializable")] 87

/-- java/lang/Enum -/
def k9 : Class := { plain "java/lang/Enum" (some 0) with
  accessFlags := 1057
  interfaces := #[5, 3, 2]
  cf := some (fileOf pool9 2 #[.nestMembers #[106]] #[] 1057 12 #[111, 113, 115] #[{ accessFlags := 18, nameIndex := 5, descriptorIndex := 6, attributes := #[] }, { accessFlags := 18, nameIndex := 9, descriptorIndex := 10, attributes := #[] }, { accessFlags := 2, nameIndex := 19, descriptorIndex := 10, attributes := #[] }])
  fields := #[{ name := "name", type := (.object "java/lang/String"), accessFlags := 18, slot := 0, constantValue := 0 }, { name := "ordinal", type := .int, accessFlags := 18, slot := 1, constantValue := 0 }, { name := "hash", type := .int, accessFlags := 2, slot := 2, constantValue := 0 }]
  methods := #[]
  instanceTypes := #[(.object "java/lang/String"), .int, .int]
  staticTypes := #[]
  resolved := Array.replicate 204 none
  statics := none }

def pool10 : Array CpInfo := pool [(1, .class_ 2), (0, u "com/example/vesta/vesta/model/BeanScope"), (2, u "SINGLETON"), (0, u "Lcom/example/vesta/vesta/model/BeanScope;"), (2, u "PROTOTYPE"), (0, .fieldref 1 11), (0, .nameAndType 12 13), (0, u "$VALUES"), (0, u "[Lcom/example/vesta/vesta/model/BeanScope;"), (0, .methodref 15 16), (0, .class_ 13), (0, .nameAndType 17 18), (0, u "clone"), (0, u "()Ljava/lang/Object;"), (1, .class_ 22), (1, u "java/lang/Enum"), (6, .fieldref 1 30), (0, .nameAndType 31 32), (0, u "written"), (0, u "Ljava/lang/String;"), (0, .string 34), (0, u "name"), (0, .methodref 36 37), (0, .class_ 38), (0, .nameAndType 39 40), (0, u "java/util/Objects"), (0, u "requireNonNull"), (0, u "(Ljava/lang/Object;Ljava/lang/String;)Ljava/lang/Object;"), (0, .methodref 1 42), (0, .nameAndType 43 44), (0, u "values"), (0, u "()[Lcom/example/vesta/vesta/model/BeanScope;"), (0, .methodref 46 47), (0, .class_ 48), (0, .nameAndType 49 50), (0, u "java/lang/String"), (0, u "equals"), (0, u "(Ljava/lang/Object;)Z"), (23, u "(Ljava/lang/String;)Lcom/example/vesta/vesta/model/BeanScope;"), (2, u "named")] 21

def k10c0 : Code := { maxStack := 1, maxLocals := 0, code := prog_27_method_1_code, exceptionTable := #[], attributes := #[] }
def k10m0 : Method := { name := "values", desc := "()[Lcom/example/vesta/vesta/model/BeanScope;", sig := { parameters := [], returnType := some (.array (.object "com/example/vesta/vesta/model/BeanScope")) }, accessFlags := 9, code := some k10c0 }
def k10c1 : Code := { maxStack := 3, maxLocals := 6, code := prog_27_method_4_code, exceptionTable := #[], attributes := #[] }
def k10m1 : Method := { name := "named", desc := "(Ljava/lang/String;)Lcom/example/vesta/vesta/model/BeanScope;", sig := { parameters := [(.object "java/lang/String")], returnType := some (.object "com/example/vesta/vesta/model/BeanScope") }, accessFlags := 9, code := some k10c1 }
/-- com/example/vesta/vesta/model/BeanScope -/
def k10 : Class := { plain "com/example/vesta/vesta/model/BeanScope" (some 9) with
  accessFlags := 16433
  interfaces := #[]
  cf := some (fileOf pool10 1 #[] #[{ accessFlags := 9, nameIndex := 43, descriptorIndex := 44, attributes := #[] }, { accessFlags := 9, nameIndex := 77, descriptorIndex := 74, attributes := #[] }] 16433 20 #[] #[{ accessFlags := 16409, nameIndex := 5, descriptorIndex := 6, attributes := #[] }, { accessFlags := 16409, nameIndex := 9, descriptorIndex := 6, attributes := #[] }, { accessFlags := 18, nameIndex := 31, descriptorIndex := 32, attributes := #[] }, { accessFlags := 4122, nameIndex := 12, descriptorIndex := 13, attributes := #[] }])
  fields := #[{ name := "SINGLETON", type := (.object "com/example/vesta/vesta/model/BeanScope"), accessFlags := 16409, slot := 0, constantValue := 0 }, { name := "PROTOTYPE", type := (.object "com/example/vesta/vesta/model/BeanScope"), accessFlags := 16409, slot := 1, constantValue := 0 }, { name := "written", type := (.object "java/lang/String"), accessFlags := 18, slot := 3, constantValue := 0 }, { name := "$VALUES", type := (.array (.object "com/example/vesta/vesta/model/BeanScope")), accessFlags := 4122, slot := 2, constantValue := 0 }]
  methods := #[k10m0, k10m1]
  instanceTypes := #[(.object "java/lang/String"), .int, .int, (.object "java/lang/String")]
  staticTypes := #[(.object "com/example/vesta/vesta/model/BeanScope"), (.object "com/example/vesta/vesta/model/BeanScope"), (.array (.object "com/example/vesta/vesta/model/BeanScope"))]
  resolved := Array.replicate 99 none
  statics := some 1 }

def pool11 : Array CpInfo := pool [(2, .class_ 4), (1, u "java/lang/Object"), (0, u "<init>"), (0, u "()V"), (35, .class_ 44), (1, u "java/util/Objects"), (0, u "requireNonNull"), (48, u "(Ljava/lang/Object;Ljava/lang/String;)Ljava/lang/Object;")] 89

def k11m0 : Method := { name := "<init>", desc := "()V", sig := { parameters := [], returnType := none }, accessFlags := 2, code := none }
def k11c1 : Code := { maxStack := 3, maxLocals := 2, code := jdk_31_method_11_code, exceptionTable := #[], attributes := #[] }
def k11m1 : Method := { name := "requireNonNull", desc := "(Ljava/lang/Object;Ljava/lang/String;)Ljava/lang/Object;", sig := { parameters := [(.object "java/lang/Object"), (.object "java/lang/String")], returnType := some (.object "java/lang/Object") }, accessFlags := 9, code := some k11c1 }
/-- java/util/Objects -/
def k11 : Class := { plain "java/util/Objects" (some 0) with
  accessFlags := 49
  interfaces := #[]
  cf := some (fileOf pool11 42 #[] #[{ accessFlags := 2, nameIndex := 5, descriptorIndex := 6, attributes := #[] }, { accessFlags := 9, nameIndex := 45, descriptorIndex := 94, attributes := #[] }] 49 2 #[] #[])
  fields := #[]
  methods := #[k11m0, k11m1]
  instanceTypes := #[]
  staticTypes := #[]
  resolved := Array.replicate 184 none
  statics := none }

def pool12 : Array CpInfo := pool [(1, .class_ 2), (0, u "java/lang/Cloneable"), (0, .class_ 4), (0, u "java/lang/Object")] 2

/-- java/lang/Cloneable -/
def k12 : Class := { plain "java/lang/Cloneable" (some 0) with
  accessFlags := 1537
  interfaces := #[]
  cf := some (fileOf pool12 1 #[] #[] 1537 3 #[] #[])
  fields := #[]
  methods := #[]
  instanceTypes := #[]
  staticTypes := #[]
  resolved := Array.replicate 7 none
  statics := none }

def pool13 : Array CpInfo := pool [(4, .class_ 6), (1, u "java/lang/Object"), (0, u "<init>"), (0, u "()V"), (5, .class_ 16), (1, u "java/lang/StringLatin1"), (104, u "$assertionsDisabled"), (0, u "Z"), (98, .class_ 223), (1, u "java/lang/StringLatin1$LinesSpliterator"), (57, u "equals"), (0, u "([B[B)Z"), (107, .class_ 391), (0, u "java/lang/StringLatin1$CharsSpliterator")] 3

def k13m0 : Method := { name := "<init>", desc := "()V", sig := { parameters := [], returnType := none }, accessFlags := 0, code := none }
def k13c1 : Code := { maxStack := 3, maxLocals := 3, code := jdk_43_method_13_code, exceptionTable := #[], attributes := #[] }
def k13m1 : Method := { name := "equals", desc := "([B[B)Z", sig := { parameters := [(.array .byte), (.array .byte)], returnType := some .boolean }, accessFlags := 9, code := some k13c1 }
/-- java/lang/StringLatin1 -/
def k13 : Class := { plain "java/lang/StringLatin1" (some 0) with
  accessFlags := 48
  interfaces := #[]
  cf := some (fileOf pool13 14 #[.nestMembers #[390, 221]] #[{ accessFlags := 0, nameIndex := 7, descriptorIndex := 8, attributes := #[] }, { accessFlags := 9, nameIndex := 281, descriptorIndex := 282, attributes := #[] }] 48 4 #[] #[{ accessFlags := 4120, nameIndex := 121, descriptorIndex := 122, attributes := #[] }])
  fields := #[{ name := "$assertionsDisabled", type := .boolean, accessFlags := 4120, slot := 0, constantValue := 0 }]
  methods := #[k13m0, k13m1]
  instanceTypes := #[]
  staticTypes := #[.boolean]
  resolved := Array.replicate 395 none
  statics := none }

def pool14 : Array CpInfo := pool [(2, .class_ 4), (1, u "java/lang/Object"), (0, u "<init>"), (0, u "()V"), (17, .class_ 26), (1, u "jdk/internal/util/Preconditions"), (28, .class_ 56), (0, u "jdk/internal/util/Preconditions$4"), (57, .class_ 115), (0, u "jdk/internal/util/Preconditions$1"), (7, u "SIOOBE_FORMATTER"), (0, u "Ljava/util/function/BiFunction;"), (0, .class_ 126), (0, u "jdk/internal/util/Preconditions$2"), (3, u "AIOOBE_FORMATTER"), (0, .class_ 132), (0, u "jdk/internal/util/Preconditions$3"), (3, u "IOOBE_FORMATTER")] 57

def k14m0 : Method := { name := "<init>", desc := "()V", sig := { parameters := [], returnType := none }, accessFlags := 1, code := none }
/-- jdk/internal/util/Preconditions -/
def k14 : Class := { plain "jdk/internal/util/Preconditions" (some 0) with
  accessFlags := 33
  interfaces := #[]
  cf := some (fileOf pool14 24 #[.nestMembers #[55, 131, 125, 114]] #[{ accessFlags := 1, nameIndex := 5, descriptorIndex := 6, attributes := #[] }] 33 2 #[] #[{ accessFlags := 25, nameIndex := 123, descriptorIndex := 124, attributes := #[] }, { accessFlags := 25, nameIndex := 130, descriptorIndex := 124, attributes := #[] }, { accessFlags := 25, nameIndex := 136, descriptorIndex := 124, attributes := #[] }])
  fields := #[{ name := "SIOOBE_FORMATTER", type := (.object "java/util/function/BiFunction"), accessFlags := 25, slot := 0, constantValue := 0 }, { name := "AIOOBE_FORMATTER", type := (.object "java/util/function/BiFunction"), accessFlags := 25, slot := 1, constantValue := 0 }, { name := "IOOBE_FORMATTER", type := (.object "java/util/function/BiFunction"), accessFlags := 25, slot := 2, constantValue := 0 }]
  methods := #[k14m0]
  instanceTypes := #[]
  staticTypes := #[(.object "java/util/function/BiFunction"), (.object "java/util/function/BiFunction"), (.object "java/util/function/BiFunction")]
  resolved := Array.replicate 194 none
  statics := some 2 }

def pool15 : Array CpInfo := pool [(9, u "<init>"), (6, .class_ 18), (1, u "java/lang/Object"), (0, u "()V"), (1, .class_ 23), (1, u "jdk/internal/util/ArraysSupport"), (0, u "LOG2_ARRAY_LONG_INDEX_SCALE"), (0, u "I"), (2, u "U"), (0, u "Ljdk/internal/misc/Unsafe;"), (8, u "BIG_ENDIAN"), (0, u "Z"), (8, u "LOG2_BYTE_BIT_SIZE"), (4, u "LOG2_ARRAY_INT_INDEX_SCALE"), (54, u "JLA"), (0, u "Ljdk/internal/access/JavaLangAccess;"), (11, u "LOG2_ARRAY_BOOLEAN_INDEX_SCALE"), (9, u "LOG2_ARRAY_BYTE_INDEX_SCALE"), (5, u "LOG2_ARRAY_CHAR_INDEX_SCALE"), (5, u "LOG2_ARRAY_SHORT_INDEX_SCALE"), (18, u "LOG2_ARRAY_FLOAT_INDEX_SCALE"), (24, u "LOG2_ARRAY_DOUBLE_INDEX_SCALE"), (89, u "T_BOOLEAN"), (2, u "T_CHAR"), (1, u "T_FLOAT"), (1, u "T_DOUBLE"), (1, u "T_BYTE"), (1, u "T_SHORT"), (1, u "T_INT"), (1, u "T_LONG"), (1, u "SOFT_MAX_ARRAY_LENGTH")] 83

def k15m0 : Method := { name := "<init>", desc := "()V", sig := { parameters := [], returnType := none }, accessFlags := 2, code := none }
/-- jdk/internal/util/ArraysSupport -/
def k15 : Class := { plain "jdk/internal/util/ArraysSupport" (some 0) with
  accessFlags := 33
  interfaces := #[]
  cf := some (fileOf pool15 21 #[] #[{ accessFlags := 2, nameIndex := 9, descriptorIndex := 19, attributes := #[] }] 33 16 #[] #[{ accessFlags := 24, nameIndex := 28, descriptorIndex := 29, attributes := #[] }, { accessFlags := 26, nameIndex := 38, descriptorIndex := 39, attributes := #[] }, { accessFlags := 25, nameIndex := 121, descriptorIndex := 25, attributes := #[] }, { accessFlags := 25, nameIndex := 131, descriptorIndex := 25, attributes := #[] }, { accessFlags := 25, nameIndex := 137, descriptorIndex := 25, attributes := #[] }, { accessFlags := 25, nameIndex := 143, descriptorIndex := 25, attributes := #[] }, { accessFlags := 25, nameIndex := 53, descriptorIndex := 25, attributes := #[] }, { accessFlags := 25, nameIndex := 24, descriptorIndex := 25, attributes := #[] }, { accessFlags := 25, nameIndex := 162, descriptorIndex := 25, attributes := #[] }, { accessFlags := 25, nameIndex := 187, descriptorIndex := 25, attributes := #[] }, { accessFlags := 26, nameIndex := 48, descriptorIndex := 25, attributes := #[] }, { accessFlags := 25, nameIndex := 277, descriptorIndex := 25, attributes := #[] }, { accessFlags := 25, nameIndex := 280, descriptorIndex := 25, attributes := #[] }, { accessFlags := 25, nameIndex := 282, descriptorIndex := 25, attributes := #[] }, { accessFlags := 25, nameIndex := 284, descriptorIndex := 25, attributes := #[] }, { accessFlags := 25, nameIndex := 286, descriptorIndex := 25, attributes := #[] }, { accessFlags := 25, nameIndex := 288, descriptorIndex := 25, attributes := #[] }, { accessFlags := 25, nameIndex := 290, descriptorIndex := 25, attributes := #[] }, { accessFlags := 25, nameIndex := 292, descriptorIndex := 25, attributes := #[] }, { accessFlags := 26, nameIndex := 108, descriptorIndex := 109, attributes := #[] }, { accessFlags := 25, nameIndex := 294, descriptorIndex := 25, attributes := #[] }])
  fields := #[{ name := "U", type := (.object "jdk/internal/misc/Unsafe"), accessFlags := 24, slot := 0, constantValue := 0 }, { name := "BIG_ENDIAN", type := .boolean, accessFlags := 26, slot := 1, constantValue := 0 }, { name := "LOG2_ARRAY_BOOLEAN_INDEX_SCALE", type := .int, accessFlags := 25, slot := 2, constantValue := 0 }, { name := "LOG2_ARRAY_BYTE_INDEX_SCALE", type := .int, accessFlags := 25, slot := 3, constantValue := 0 }, { name := "LOG2_ARRAY_CHAR_INDEX_SCALE", type := .int, accessFlags := 25, slot := 4, constantValue := 0 }, { name := "LOG2_ARRAY_SHORT_INDEX_SCALE", type := .int, accessFlags := 25, slot := 5, constantValue := 0 }, { name := "LOG2_ARRAY_INT_INDEX_SCALE", type := .int, accessFlags := 25, slot := 6, constantValue := 0 }, { name := "LOG2_ARRAY_LONG_INDEX_SCALE", type := .int, accessFlags := 25, slot := 7, constantValue := 0 }, { name := "LOG2_ARRAY_FLOAT_INDEX_SCALE", type := .int, accessFlags := 25, slot := 8, constantValue := 0 }, { name := "LOG2_ARRAY_DOUBLE_INDEX_SCALE", type := .int, accessFlags := 25, slot := 9, constantValue := 0 }, { name := "LOG2_BYTE_BIT_SIZE", type := .int, accessFlags := 26, slot := 10, constantValue := 0 }, { name := "T_BOOLEAN", type := .int, accessFlags := 25, slot := 11, constantValue := 0 }, { name := "T_CHAR", type := .int, accessFlags := 25, slot := 12, constantValue := 0 }, { name := "T_FLOAT", type := .int, accessFlags := 25, slot := 13, constantValue := 0 }, { name := "T_DOUBLE", type := .int, accessFlags := 25, slot := 14, constantValue := 0 }, { name := "T_BYTE", type := .int, accessFlags := 25, slot := 15, constantValue := 0 }, { name := "T_SHORT", type := .int, accessFlags := 25, slot := 16, constantValue := 0 }, { name := "T_INT", type := .int, accessFlags := 25, slot := 17, constantValue := 0 }, { name := "T_LONG", type := .int, accessFlags := 25, slot := 18, constantValue := 0 }, { name := "JLA", type := (.object "jdk/internal/access/JavaLangAccess"), accessFlags := 26, slot := 19, constantValue := 0 }, { name := "SOFT_MAX_ARRAY_LENGTH", type := .int, accessFlags := 25, slot := 20, constantValue := 0 }]
  methods := #[k15m0]
  instanceTypes := #[]
  staticTypes := #[(.object "jdk/internal/misc/Unsafe"), .boolean, .int, .int, .int, .int, .int, .int, .int, .int, .int, .int, .int, .int, .int, .int, .int, .int, .int, (.object "jdk/internal/access/JavaLangAccess"), .int]
  resolved := Array.replicate 378 none
  statics := none }

/-- the primitive byte -/
def k16 : Class := { plain "byte" none with kind := .primitive 'B', accessFlags := 0x411 }
/-- [B -/
def k17 : Class := { plain "[B" (some 0) with kind := .array 16 .byte, interfaces := #[12, 2], accessFlags := 1041 }

/-- the primitive char -/
def k18 : Class := { plain "char" none with kind := .primitive 'C', accessFlags := 0x411 }
/-- [C -/
def k19 : Class := { plain "[C" (some 0) with kind := .array 18 .char, interfaces := #[12, 2], accessFlags := 1041 }

/-- the primitive int -/
def k20 : Class := { plain "int" none with kind := .primitive 'I', accessFlags := 0x411 }
/-- [I -/
def k21 : Class := { plain "[I" (some 0) with kind := .array 20 .int, interfaces := #[12, 2], accessFlags := 1041 }

/-- [Lcom/example/vesta/vesta/model/BeanScope; -/
def k22 : Class := { plain "[Lcom/example/vesta/vesta/model/BeanScope;" (some 0) with kind := .array 10 (.object "com/example/vesta/vesta/model/BeanScope"), interfaces := #[12, 2], accessFlags := 1041 }

def heap : Heap := #[{ cls := 7, slots := #[.long 0, .int 1, .null, .int 0, .null, .int 0, .int 0], vm := .statics 7 },
  { cls := 10, slots := #[.ref 4, .ref 5, .ref 3], vm := .statics 10 },
  { cls := 14, slots := #[.null, .null, .null], vm := .statics 14 },
  { cls := 22, slots := #[.ref 4, .ref 5], vm := .none },
  { cls := 10, slots := #[.null, .int 0, .int 0, .ref 6], vm := .none },
  { cls := 10, slots := #[.null, .int 1, .int 0, .ref 7], vm := .none },
  { cls := 7, slots := #[.ref 8, .int 0, .int 0, .int 0], vm := .none },
  { cls := 7, slots := #[.ref 9, .int 0, .int 0, .int 0], vm := .none },
  { cls := 17, slots := #[.int 115, .int 105, .int 110, .int 103, .int 108, .int 101, .int 116, .int 111, .int 110], vm := .none },
  { cls := 17, slots := #[.int 112, .int 114, .int 111, .int 116, .int 111, .int 116, .int 121, .int 112, .int 101], vm := .none }]
def classes : Array Class := #[k0, k1, k2, k3, k4, k5, k6, k7, k8, k9, k10, k11, k12, k13, k14, k15, k16, k17, k18, k19, k20, k21, k22]
def interned : List (Array UInt16 × Addr) := []
def slotsUsed : Nat := 49
def theMethod : MethodId := ⟨1, 1⟩
def args0 : Array Value := #[.int 1]
def aboutOver (below : List Frame) : State where
  vm := { classes := classes, interned := interned.toArray }
  heap := heap
  slotsUsed := slotsUsed
  threads := #[{ frames := .invoking theMethod args0 :: below }]
def below0 : List Frame := [.native { method := ⟨0, 0⟩, args := #[] }]
def about1 : State := aboutOver below0
def p0 : Program := .bare "" "" ""
def e0 : Env := launch0.env 0 0 0
theorem w_frames : about1.frames = Frame.invoking theMethod args0 :: below0 := rfl
set_option maxRecDepth 65536 in
theorem w_args : argsFit about1.vm theMethod args0 = true := by decide +kernel
set_option maxRecDepth 65536 in
theorem w_heap : heapFits about1 = true := by decide +kernel
set_option maxRecDepth 65536 in
theorem w_runnable : about1.curStatus? = some .runnable := by decide +kernel
set_option maxRecDepth 65536 in
theorem w_alone : about1.alone = true := by decide +kernel
set_option maxRecDepth 65536 in
theorem w_named : about1.methodNamed? x = some theMethod := by decide +kernel
set_option maxRecDepth 65536 in
theorem w_hears : about1.hears theMethod below0 = true := by decide +kernel
set_option maxRecDepth 65536 in
theorem w_ripe : about1.ripe theMethod args0 below0 = true := by decide +kernel
theorem w_running : about1.status = .running := rfl
set_option maxRecDepth 65536 in
theorem w_room : about1.hasRoom e0.platform room_1 = true :=
  launch0.hasRoom_least _ room_1 (by decide +kernel) (by decide +kernel) (by decide +kernel) (by decide +kernel) (by decide +kernel) (by decide +kernel)
theorem allAtoms_all (ts : List Jvm.Cond) (a : Array Jvm.Value) (st : Jvm.State) : (allAtoms ts).before a st = ts.all (fun c => c.before a st) := by
  induction ts with
  | nil => rfl
  | cons c t ih =>
    show (Jvm.Cond.and c (allAtoms t)).before a st = _
    rw [Jvm.Cond.before_and, ih, List.all_cons]
def words1 : List Jvm.Cond := Jvm.Cond.code x code maxLocals ret :: tables_1
/-- a 'code' word, met by the world's own term for the bytes: nothing is compared byte by byte -/
theorem code_word {y : MethodName} {bytes : ByteArray} {mx : Nat} {rt : Option FieldType} {a : Array Value} {s : State} {m : MethodId} {meth : Method} {c : Code} (h1 : s.methodNamed? y = some m) (h2 : s.vm.method? m = some meth) (h3 : meth.code = some c) (h4 : c.code = bytes)
    (h5 : (c.maxLocals == mx && c.exceptionTable.isEmpty && decide (c.maxStack ≤ mostOperands) && decide (meth.sig.returnType = rt) && !meth.locks && decide (parseMethodDescriptor y.desc = some meth.sig)) = true) : (Jvm.Cond.code y bytes mx rt).before a s = true := by
  simp only [Bool.and_eq_true, beq_iff_eq, Bool.not_eq_true', decide_eq_true_eq] at h5
  obtain ⟨⟨⟨⟨⟨g1, g2⟩, g3⟩, g4⟩, g5⟩, g6⟩ := h5
  simp [Cond.before, Cond.holds, Cond.value, h1, h2, h3, h4, g1, g2, g3, g4, g5, g6]
def isCode : Jvm.Cond → Bool
  | .code _ _ _ _ => true
  | _ => false
theorem all_split {L : List Jvm.Cond} {P : Jvm.Cond → Bool} (h1 : L.all (fun c => isCode c || P c) = true) (h2 : ∀ c ∈ L.filter isCode, P c = true) : L.all P = true := by
  refine List.all_eq_true.mpr fun c hc => ?_
  have h := List.all_eq_true.mp h1 c hc
  rcases Bool.eq_false_or_eq_true (isCode c) with hi | hi
  · exact h2 c (List.mem_filter.mpr ⟨hc, hi⟩)
  · simpa [hi] using h
set_option maxRecDepth 65536 in
theorem w_c0 : (Jvm.Cond.code x code maxLocals ret).before args0 about1 = true := code_word (m := ⟨1, 1⟩) (meth := k1m1) (c := k1c1) (by decide +kernel) rfl rfl rfl (by decide +kernel)
set_option maxRecDepth 65536 in
theorem w_c1 : (Jvm.Cond.code ({ cls := "java/lang/String", name := "<init>", desc := "([C)V" } : Jvm.MethodName) jdk_42_method_3_code (2 : Nat) (Option.none : Option Jvm.ClassFile.FieldType)).before args0 about1 = true := code_word (m := ⟨7, 1⟩) (meth := k7m1) (c := k7c1) (by decide +kernel) rfl rfl rfl (by decide +kernel)
set_option maxRecDepth 65536 in
theorem w_c2 : (Jvm.Cond.code ({ cls := "java/lang/String", name := "<init>", desc := "([CIILjava/lang/Void;)V" } : Jvm.MethodName) jdk_42_method_149_code (6 : Nat) (Option.none : Option Jvm.ClassFile.FieldType)).before args0 about1 = true := code_word (m := ⟨7, 3⟩) (meth := k7m3) (c := k7c3) (by decide +kernel) rfl rfl rfl (by decide +kernel)
set_option maxRecDepth 65536 in
theorem w_c3 : (Jvm.Cond.code ({ cls := "java/lang/Object", name := "<init>", desc := "()V" } : Jvm.MethodName) object_method_1_code (1 : Nat) (Option.none : Option Jvm.ClassFile.FieldType)).before args0 about1 = true := code_word (m := ⟨0, 0⟩) (meth := k0m0) (c := k0c0) (by decide +kernel) rfl rfl rfl (by decide +kernel)
set_option maxRecDepth 65536 in
theorem w_c4 : (Jvm.Cond.code ({ cls := "java/lang/StringUTF16", name := "compress", desc := "([CII)[B" } : Jvm.MethodName) jdk_52_method_16_code (6 : Nat) (Option.some (Jvm.ClassFile.FieldType.array Jvm.ClassFile.FieldType.byte))).before args0 about1 = true := code_word (m := ⟨8, 2⟩) (meth := k8m2) (c := k8c2) (by decide +kernel) rfl rfl rfl (by decide +kernel)
set_option maxRecDepth 65536 in
theorem w_c5 : (Jvm.Cond.code ({ cls := "java/lang/StringUTF16", name := "compress", desc := "([CI[BII)I" } : Jvm.MethodName) jdk_52_method_21_code (7 : Nat) (Option.some Jvm.ClassFile.FieldType.int)).before args0 about1 = true := code_word (m := ⟨8, 3⟩) (meth := k8m3) (c := k8c3) (by decide +kernel) rfl rfl rfl (by decide +kernel)
set_option maxRecDepth 65536 in
theorem w_c6 : (Jvm.Cond.code ({ cls := "java/lang/StringUTF16", name := "coderFromArrayLen", desc := "([BI)B" } : Jvm.MethodName) jdk_52_method_15_code (2 : Nat) (Option.some Jvm.ClassFile.FieldType.byte)).before args0 about1 = true := code_word (m := ⟨8, 1⟩) (meth := k8m1) (c := k8c1) (by decide +kernel) rfl rfl rfl (by decide +kernel)
set_option maxRecDepth 65536 in
theorem w_c7 : (Jvm.Cond.code ({ cls := "com/example/vesta/vesta/model/BeanScope", name := "named", desc := "(Ljava/lang/String;)Lcom/example/vesta/vesta/model/BeanScope;" } : Jvm.MethodName) prog_27_method_4_code (6 : Nat) (Option.some (Jvm.ClassFile.FieldType.object "com/example/vesta/vesta/model/BeanScope"))).before args0 about1 = true := code_word (m := ⟨10, 1⟩) (meth := k10m1) (c := k10c1) (by decide +kernel) rfl rfl rfl (by decide +kernel)
set_option maxRecDepth 65536 in
theorem w_c8 : (Jvm.Cond.code ({ cls := "java/util/Objects", name := "requireNonNull", desc := "(Ljava/lang/Object;Ljava/lang/String;)Ljava/lang/Object;" } : Jvm.MethodName) jdk_31_method_11_code (2 : Nat) (Option.some (Jvm.ClassFile.FieldType.object "java/lang/Object"))).before args0 about1 = true := code_word (m := ⟨11, 1⟩) (meth := k11m1) (c := k11c1) (by decide +kernel) rfl rfl rfl (by decide +kernel)
set_option maxRecDepth 65536 in
theorem w_c9 : (Jvm.Cond.code ({ cls := "com/example/vesta/vesta/model/BeanScope", name := "values", desc := "()[Lcom/example/vesta/vesta/model/BeanScope;" } : Jvm.MethodName) prog_27_method_1_code (0 : Nat) (Option.some (Jvm.ClassFile.FieldType.array (Jvm.ClassFile.FieldType.object "com/example/vesta/vesta/model/BeanScope")))).before args0 about1 = true := code_word (m := ⟨10, 0⟩) (meth := k10m0) (c := k10c0) (by decide +kernel) rfl rfl rfl (by decide +kernel)
set_option maxRecDepth 65536 in
theorem w_c10 : (Jvm.Cond.code ({ cls := "java/lang/String", name := "equals", desc := "(Ljava/lang/Object;)Z" } : Jvm.MethodName) jdk_42_method_66_code (3 : Nat) (Option.some Jvm.ClassFile.FieldType.boolean)).before args0 about1 = true := code_word (m := ⟨7, 2⟩) (meth := k7m2) (c := k7c2) (by decide +kernel) rfl rfl rfl (by decide +kernel)
set_option maxRecDepth 65536 in
theorem w_c11 : (Jvm.Cond.code ({ cls := "java/lang/StringLatin1", name := "equals", desc := "([B[B)Z" } : Jvm.MethodName) jdk_43_method_13_code (3 : Nat) (Option.some Jvm.ClassFile.FieldType.boolean)).before args0 about1 = true := code_word (m := ⟨13, 1⟩) (meth := k13m1) (c := k13c1) (by decide +kernel) rfl rfl rfl (by decide +kernel)
def codes1 : List Jvm.Cond := [Jvm.Cond.code x code maxLocals ret, Jvm.Cond.code ({ cls := "java/lang/String", name := "<init>", desc := "([C)V" } : Jvm.MethodName) jdk_42_method_3_code (2 : Nat) (Option.none : Option Jvm.ClassFile.FieldType), Jvm.Cond.code ({ cls := "java/lang/String", name := "<init>", desc := "([CIILjava/lang/Void;)V" } : Jvm.MethodName) jdk_42_method_149_code (6 : Nat) (Option.none : Option Jvm.ClassFile.FieldType), Jvm.Cond.code ({ cls := "java/lang/Object", name := "<init>", desc := "()V" } : Jvm.MethodName) object_method_1_code (1 : Nat) (Option.none : Option Jvm.ClassFile.FieldType), Jvm.Cond.code ({ cls := "java/lang/StringUTF16", name := "compress", desc := "([CII)[B" } : Jvm.MethodName) jdk_52_method_16_code (6 : Nat) (Option.some (Jvm.ClassFile.FieldType.array Jvm.ClassFile.FieldType.byte)), Jvm.Cond.code ({ cls := "java/lang/StringUTF16", name := "compress", desc := "([CI[BII)I" } : Jvm.MethodName) jdk_52_method_21_code (7 : Nat) (Option.some Jvm.ClassFile.FieldType.int), Jvm.Cond.code ({ cls := "java/lang/StringUTF16", name := "coderFromArrayLen", desc := "([BI)B" } : Jvm.MethodName) jdk_52_method_15_code (2 : Nat) (Option.some Jvm.ClassFile.FieldType.byte), Jvm.Cond.code ({ cls := "com/example/vesta/vesta/model/BeanScope", name := "named", desc := "(Ljava/lang/String;)Lcom/example/vesta/vesta/model/BeanScope;" } : Jvm.MethodName) prog_27_method_4_code (6 : Nat) (Option.some (Jvm.ClassFile.FieldType.object "com/example/vesta/vesta/model/BeanScope")), Jvm.Cond.code ({ cls := "java/util/Objects", name := "requireNonNull", desc := "(Ljava/lang/Object;Ljava/lang/String;)Ljava/lang/Object;" } : Jvm.MethodName) jdk_31_method_11_code (2 : Nat) (Option.some (Jvm.ClassFile.FieldType.object "java/lang/Object")), Jvm.Cond.code ({ cls := "com/example/vesta/vesta/model/BeanScope", name := "values", desc := "()[Lcom/example/vesta/vesta/model/BeanScope;" } : Jvm.MethodName) prog_27_method_1_code (0 : Nat) (Option.some (Jvm.ClassFile.FieldType.array (Jvm.ClassFile.FieldType.object "com/example/vesta/vesta/model/BeanScope"))), Jvm.Cond.code ({ cls := "java/lang/String", name := "equals", desc := "(Ljava/lang/Object;)Z" } : Jvm.MethodName) jdk_42_method_66_code (3 : Nat) (Option.some Jvm.ClassFile.FieldType.boolean), Jvm.Cond.code ({ cls := "java/lang/StringLatin1", name := "equals", desc := "([B[B)Z" } : Jvm.MethodName) jdk_43_method_13_code (3 : Nat) (Option.some Jvm.ClassFile.FieldType.boolean)]
set_option maxRecDepth 65536 in
theorem codes_eq : words1.filter isCode = codes1 := rfl
theorem w_codes : ∀ c ∈ words1.filter isCode, c.before args0 about1 = true := by
  rw [codes_eq]
  intro c hc
  simp only [codes1, List.mem_cons, List.not_mem_nil, or_false] at hc
  rcases hc with rfl | rfl | rfl | rfl | rfl | rfl | rfl | rfl | rfl | rfl | rfl | rfl
  · exact w_c0
  · exact w_c1
  · exact w_c2
  · exact w_c3
  · exact w_c4
  · exact w_c5
  · exact w_c6
  · exact w_c7
  · exact w_c8
  · exact w_c9
  · exact w_c10
  · exact w_c11
set_option maxRecDepth 65536 in
theorem w_t1 : (words1.take 24).all (fun c => isCode c || c.before args0 about1) = true := by decide +kernel
set_option maxRecDepth 65536 in
theorem w_t2 : ((words1.drop 24).take 24).all (fun c => isCode c || c.before args0 about1) = true := by decide +kernel
set_option maxRecDepth 65536 in
theorem w_t3 : (((words1.drop 24).drop 24).take 24).all (fun c => isCode c || c.before args0 about1) = true := by decide +kernel
set_option maxRecDepth 65536 in
theorem w_t4 : (((words1.drop 24).drop 24).drop 24).all (fun c => isCode c || c.before args0 about1) = true := by decide +kernel
theorem w_tables : (allAtoms (Jvm.Cond.code x code maxLocals ret :: tables_1)).before args0 about1 = true := by
  rw [allAtoms_all]
  show words1.all (fun c => c.before args0 about1) = true
  refine all_split ?_ w_codes
  rw [← List.take_append_drop 24 words1, List.all_append, w_t1, ← List.take_append_drop 24 (words1.drop 24), List.all_append, w_t2, ← List.take_append_drop 24 ((words1.drop 24).drop 24), List.all_append, w_t3, w_t4]
  rfl
set_option maxRecDepth 65536 in
theorem w_rest : rest_1_c.before args0 about1 = true := by decide +kernel
set_option maxRecDepth 65536 in
theorem w_case : (Jvm.Cond.and given_1 narrow_1).before args0 about1 = true := by decide +kernel
theorem w_applies : (headSpec (Jvm.Cond.code x code maxLocals ret :: tables_1) room_1).applies x e0.platform about1 = true :=
  (Spec.applies_iff w_frames).mpr ⟨w_running, w_runnable, w_alone, w_named, w_hears, w_ripe, w_room, w_tables⟩
theorem atStart : AtStart classFile x code maxLocals ret World_1 tables_1 room_1 Calls_1 rest_1 Pre_1 launch0 p0 e0 about1 theMethod args0 below0 :=
  ⟨lists_1, trivial, launch0.admits_env _ _ _, launch0.least_env, fairChoices_fair.cas, fairChoices_fair.clock, w_frames, w_args, w_heap, w_applies, trivial, w_rest, w_case⟩
end start1
theorem witness_1 : WitnessClaimed_1 := ⟨start1.p0, start1.e0, start1.about1, start1.theMethod, start1.args0, start1.below0, start1.atStart⟩
end Jvm.Pilot.@@N@@
