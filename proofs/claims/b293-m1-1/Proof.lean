import JvmDerived
import JvmDerived.Pilot.@@N@@Statement
import JvmDerived.Pilot.@@N@@Code
set_option linter.unusedVariables false
set_option linter.unusedSimpArgs false

namespace Jvm.Own
open Sem ClassFile Op Lib Jvm.Stand Jvm.Free Jvm.LawKit Jvm.RoadKit
/-! the walk in continuation style: Wlk says that from here the run ends as wanted -/
abbrev JJ : Type := Bool × List String × List (String × Nat × Addr)
abbrev Cx : Type := Program × Launch × Env × State × MethodId × Array Value × List Frame × Method × Code
abbrev Cx.p (G : Cx) : Program := G.1
abbrev Cx.l (G : Cx) : Launch := G.2.1
abbrev Cx.e (G : Cx) : Env := G.2.2.1
abbrev Cx.s (G : Cx) : State := G.2.2.2.1
abbrev Cx.m (G : Cx) : MethodId := G.2.2.2.2.1
abbrev Cx.args (G : Cx) : Array Value := G.2.2.2.2.2.1
abbrev Cx.below (G : Cx) : List Frame := G.2.2.2.2.2.2.1
abbrev Cx.meth (G : Cx) : Method := G.2.2.2.2.2.2.2.1
abbrev Cx.c (G : Cx) : Code := G.2.2.2.2.2.2.2.2
/-- the texts loaded since the case's start; the entries known to be resolved -/
def Books (Z : State) (vm : Vm) (J : JJ) : Prop := J.1 = true → IB Z vm J.2.1 ∧ ∀ x ∈ J.2.2, Lit (Z.setVm vm) x.1 x.2.1 x.2.2
theorem Books.warm {Z s : State} {vm0 vm1 : Vm} {J : JJ} (B : Books Z vm0 J) (h : (s.setVm vm0).WarmedH vm1) : Books Z vm1 J := by
  intro hj
  refine ⟨?_, fun x hx => ?_⟩
  · obtain ⟨more, e, r⟩ := (B hj).1
    exact ⟨more, h.interned_eq.trans e, r⟩
  · exact Lit.stays (s := s) ((B hj).2 x hx) h.wide
def EndM (w : Bool) (s : State) (o : Outcome) (t : State) (L : List Loc) (k n : Nat) : Prop := ReturnedEndW s o t L k n ∧ (w = false → s.WarmedH t.vm)
def Pos (G : Cx) (R : Room) (Z : State) (own : String) (w : Bool) (J : JJ) (T : State) (h : Heap) (L : List Loc) (k n : Nat) : Prop :=
  ∃ (vm0 : Vm) (k0 : Nat), Stand G.p G.l G.e R (G.s.setVm vm0) G.m G.args G.below G.meth G.c T L k n ∧ T.heap = h ∧ G.s.Since vm0 k0 ∧ k0 ≤ h.size ∧ Z.Warmed39 vm0 ∧ vm0.findClass own = some G.m.cls ∧ (w = false → vm0 = G.s.vm) ∧ (w = true → Books Z vm0 J) ∧ Ext Z.heap h ∧ Fr Z.heap.size L
def Go (G : Cx) (R : Room) (Z : State) (w : Bool) (Q : Option Value → Heap → JJ → Prop) (U : State) : Prop :=
  ∃ (s₂ : State) (o : Outcome), Steps G.p.tables G.e G.below U s₂ ∧ s₂.status = .running ∧ Ended s₂ G.below o ∧
    ∃ (v : Option Value) (L : List Loc) (J' : JJ), o = .returned v ∧ (Q v s₂.heap J' ∧ Fr Z.heap.size L ∧ Ext Z.heap s₂.heap ∧ (w = true → Books Z s₂.vm J')) ∧ EndM w G.s o s₂ L R.cells R.slots
def Cok (G : Cx) (y : MethodName) (code : ByteArray) (ret : Option FieldType) : Prop :=
  G.p.tables.exec = Jvm.exec ∧ G.c.code = code ∧ G.meth.sig.returnType = ret ∧ G.meth.locks = false ∧ G.meth.name = y.name
def Wlk (G : Cx) (R : Room) (Z : State) (y : MethodName) (code : ByteArray) (ret : Option FieldType) (w : Bool) (J : JJ) (Q : Option Value → Heap → JJ → Prop) (h : Heap) (k n pc : Nat) (Ls : Array Slot) (st : List Value) : Prop :=
  Cok G y code ret → Ls.size = G.c.maxLocals → ∀ (T : State) (L : List Loc), Pos G R Z y.cls w J T h L k n → Go G R Z w Q (T.setTop (mkF G.m pc Ls st))
/-- what a body does: from the arguments and the heap h it returns as Q says -/
def Met (l : Launch) (Z : State) (y : MethodName) (code : ByteArray) (ml : Nat) (ret : Option FieldType) (w : Bool) (ws : List Jvm.Cond) (rm : Room) (as' : Array Value) (h : Heap) (J : JJ) (Q : Option Value → Heap → JJ → Prop) : Prop :=
  MetFree l y (head1 (Jvm.Cond.code y code ml ret :: ws) rm) (fun a U => a = as' ∧ Z.Warmed39 U.vm ∧ U.heap = h ∧ Ext Z.heap h ∧ (w = true → Books Z U.vm J)) (fun _ _ _ _ _ => True)
    (fun _ U o U' => ∃ (v : Option Value) (L : List Loc) (J' : JJ), o = .returned v ∧ (Q v U'.heap J' ∧ Fr Z.heap.size L ∧ Ext Z.heap U'.heap ∧ (w = true → Books Z U'.vm J')) ∧ EndM w U o U' L rm.cells rm.slots)
theorem Met.of_goes {l : Launch} {Z : State} {y : MethodName} {code : ByteArray} {ml : Nat} {ret : Option FieldType} {w : Bool} {ws : List Jvm.Cond} {rm : Room} {as' : Array Value} {h : Heap} {J : JJ} {Q : Option Value → Heap → JJ → Prop}
    (hx : plainFor y = true) {Ls : Array Slot} (hef : ∀ m, entryFrame m as' ml = mkF m 0 Ls []) (hsz : Ls.size = ml) (H : ∀ G : Cx, G.l = l → Wlk G rm Z y code ret w J Q h 0 0 0 Ls []) : Met l Z y code ml ret w ws rm as' h J Q := by
  refine MetFree.of_bodySF hx hisR ?_
  intro p e s m args below meth c s₁ Bd hml hP hK
  obtain ⟨rfl, hZ, hh, hE, hB⟩ := hP
  have X0 : Stand p l e rm s m args below meth c s₁ [] 0 0 := Stand.of_body Bd
  obtain ⟨s₂, o, hs, r⟩ := H (p, l, e, s, m, args, below, meth, c) rfl ⟨Bd.exec, Bd.bytes, Bd.returns, Bd.notSynchronized, (name_of_methodNamed Bd.named Bd.method).1⟩ (hsz.trans hml.symm) s₁ [] ⟨s.vm, 0, X0, by rw [← hh, Bd.state]; rfl, (State.WarmedH.refl s).since 0, Nat.zero_le _, hZ, findClass_of_methodNamed Bd.named, fun _ => rfl, hB, hE, Fr.nil _⟩
  exact ⟨s₂, o, castTop (hef m) hs, r⟩
section Walk
variable {G : Cx} {R : Room} {Z : State} {y : MethodName} {code : ByteArray} {ret : Option FieldType} {w : Bool} {J : JJ} {Q : Option Value → Heap → JJ → Prop} {h : Heap} {k n pc pc' : Nat} {Ls Ls' : Array Slot} {st st' : List Value} {a0 : Array Value}
theorem Wlk.plain (hz : Ls'.size = Ls.size) (hstep : Cok G y code ret → ∀ (T target : State), At T G.m G.c G.below → Steps G.p.tables G.e G.below (T.setTop (mkF G.m pc' Ls' st')) target → Steps G.p.tables G.e G.below (T.setTop (mkF G.m pc Ls st)) target) (H : Wlk G R Z y code ret w J Q h k n pc' Ls' st') : Wlk G R Z y code ret w J Q h k n pc Ls st := by
  intro hG hsz T L hP
  obtain ⟨s₂, o, hs, r⟩ := H hG (hz.trans hsz) T L hP
  obtain ⟨vm0, k0, X, -⟩ := hP
  exact ⟨s₂, o, hstep hG T _ X.here hs, r⟩
/-- a step that reads the tables or the heap and changes no cell -/
theorem Wlk.reads (hz : Ls'.size = Ls.size) (hstep : ∀ (vm0 : Vm) (T : State) (L : List Loc), Cok G y code ret → Ls.size = G.c.maxLocals → Stand G.p G.l G.e R (G.s.setVm vm0) G.m G.args G.below G.meth G.c T L k n → T.heap = h → Z.Warmed39 vm0 → vm0.findClass y.cls = some G.m.cls → Ext Z.heap h →
      ∃ T' : State, Stand G.p G.l G.e R (G.s.setVm vm0) G.m G.args G.below G.meth G.c T' L k n ∧ T'.heap = h ∧ ∀ target, Steps G.p.tables G.e G.below (T'.setTop (mkF G.m pc' Ls' st')) target → Steps G.p.tables G.e G.below (T.setTop (mkF G.m pc Ls st)) target)
    (H : Wlk G R Z y code ret w J Q h k n pc' Ls' st') : Wlk G R Z y code ret w J Q h k n pc Ls st := by
  intro hG hsz T L hP
  obtain ⟨vm0, k0, X, eT, hS, hk, hZ, hown, hw, hB, hE, hF⟩ := hP
  obtain ⟨T', X', e', st'⟩ := hstep vm0 T L hG hsz X eT hZ hown hE
  obtain ⟨s₂, o, hs, r⟩ := H hG (hz.trans hsz) T' L ⟨vm0, k0, X', e', hS, hk, hZ, hown, hw, hB, hE, hF⟩
  exact ⟨s₂, o, st' _ hs, r⟩
/-- a step that writes or makes -/
theorem Wlk.moves {k' n' : Nat} (hz : Ls'.size = Ls.size) {P : Heap → Prop} (hstep : ∀ (vm0 : Vm) (T : State) (L : List Loc), Cok G y code ret → Ls.size = G.c.maxLocals → Stand G.p G.l G.e R (G.s.setVm vm0) G.m G.args G.below G.meth G.c T L k n → T.heap = h → Z.Warmed39 vm0 → vm0.findClass y.cls = some G.m.cls → Ext Z.heap h → Fr Z.heap.size L →
      ∃ (T' : State) (h' : Heap) (L' : List Loc), Stand G.p G.l G.e R (G.s.setVm vm0) G.m G.args G.below G.meth G.c T' L' k' n' ∧ T'.heap = h' ∧ h.size ≤ h'.size ∧ Ext Z.heap h' ∧ Fr Z.heap.size L' ∧ P h' ∧ ∀ target, Steps G.p.tables G.e G.below (T'.setTop (mkF G.m pc' Ls' st')) target → Steps G.p.tables G.e G.below (T.setTop (mkF G.m pc Ls st)) target)
    (H : ∀ h', P h' → Wlk G R Z y code ret w J Q h' k' n' pc' Ls' st') : Wlk G R Z y code ret w J Q h k n pc Ls st := by
  intro hG hsz T L hP
  obtain ⟨vm0, k0, X, eT, hS, hk, hZ, hown, hw, hB, hE, hF⟩ := hP
  obtain ⟨T', h', L', X', e', hle, hE', hF', hP', st'⟩ := hstep vm0 T L hG hsz X eT hZ hown hE hF
  obtain ⟨s₂, o, hs, r⟩ := H h' hP' hG (hz.trans hsz) T' L' ⟨vm0, k0, X', e', hS, Nat.le_trans hk hle, hZ, hown, hw, hB, hE', hF'⟩
  exact ⟨s₂, o, st' _ hs, r⟩
theorem Wlk.more {k' n' : Nat} (hk' : k ≤ k') (hn' : n ≤ n') (H : Wlk G R Z y code ret w J Q h k' n' pc Ls st) : Wlk G R Z y code ret w J Q h k n pc Ls st := by
  intro hG hsz T L hP
  obtain ⟨vm0, k0, X, r⟩ := hP
  exact H hG hsz T L ⟨vm0, k0, X.more hk' hn', r⟩
theorem Wlk.ext0 (H : Ext Z.heap h → Wlk G R Z y code ret w J Q h k n pc Ls st) : Wlk G R Z y code ret w J Q h k n pc Ls st := fun hG hsz T L hP => H (by obtain ⟨vm0, k0, X, eT, hS, hk, hZ, hown, hw, hB, hE, hF⟩ := hP; exact hE) hG hsz T L hP
/-- the conditions of a branch, taken and not -/
def cT (cd : ClassFile.Cond) (x z : Int32) : Prop := match cd with
  | .eq => x = z
  | .ne => ¬ x = z
  | .lt => x < z
  | .ge => ¬ x < z
  | .gt => z < x
  | .le => ¬ z < x
def cF (cd : ClassFile.Cond) (x z : Int32) : Prop := match cd with
  | .eq => ¬ x = z
  | .ne => x = z
  | .lt => ¬ x < z
  | .ge => x < z
  | .gt => ¬ z < x
  | .le => z < x
theorem cT_holds {cd : ClassFile.Cond} {x z : Int32} (c : cT cd x z) : if_icmp.holds cd x z = true := by
  cases cd
  · exact (teq c).1
  · exact (feq c).2
  · exact (tlt c).1
  · exact (flt c).2.1
  · exact (tlt c).2.2.1
  · exact (flt c).2.2.2
theorem cF_holds {cd : ClassFile.Cond} {x z : Int32} (c : cF cd x z) : if_icmp.holds cd x z = false := by
  cases cd
  · exact (feq c).1
  · exact (teq c).2
  · exact (flt c).1
  · exact (tlt c).2.1
  · exact (flt c).2.2.1
  · exact (tlt c).2.2.2
theorem cTF (cd : ClassFile.Cond) (x z : Int32) : cT cd x z ∨ cF cd x z := by
  cases cd
  · exact Classical.em (x = z)
  · exact (Classical.em (x = z)).symm
  · exact Classical.em (x < z)
  · exact (Classical.em (x < z)).symm
  · exact Classical.em (z < x)
  · exact (Classical.em (z < x)).symm

theorem Wlk.aloadN {j : Fin 4} {v : Value} (hd : decode code pc = .ok (.aload_n j, 1)) (hl : Ls[j.val]? = some (.val v)) (hv : v.isRef = true) (hp : pc + 1 = pc') (H : Wlk G R Z y code ret w J Q h k n pc' Ls (v :: st)) : Wlk G R Z y code ret w J Q h k n pc Ls st := by
  subst hp
  exact Wlk.plain rfl (fun hG T t hA q => XS.aloadN hA hG.1 rfl (hb hG.2.1 hd) hl hv q) H
theorem Wlk.aload {j : Nat} {v : Value} (hd : decode code pc = .ok (.aload j, 2)) (hl : Ls[j]? = some (.val v)) (hv : v.isRef = true) (hp : pc + 2 = pc') (H : Wlk G R Z y code ret w J Q h k n pc' Ls (v :: st)) : Wlk G R Z y code ret w J Q h k n pc Ls st := by
  subst hp
  exact Wlk.plain rfl (fun hG T t hA q => XS.aload hA hG.1 rfl (hb hG.2.1 hd) hl hv q) H
theorem Wlk.iloadN {j : Fin 4} {v : Int32} (hd : decode code pc = .ok (.iload_n j, 1)) (hl : Ls[j.val]? = some (.val (.int v))) (hp : pc + 1 = pc') (H : Wlk G R Z y code ret w J Q h k n pc' Ls (.int v :: st)) : Wlk G R Z y code ret w J Q h k n pc Ls st := by
  subst hp
  exact Wlk.plain rfl (fun hG T t hA q => XS.iloadN hA hG.1 rfl (hb hG.2.1 hd) hl q) H
theorem Wlk.iload {j : Nat} {v : Int32} (hd : decode code pc = .ok (.iload j, 2)) (hl : Ls[j]? = some (.val (.int v))) (hp : pc + 2 = pc') (H : Wlk G R Z y code ret w J Q h k n pc' Ls (.int v :: st)) : Wlk G R Z y code ret w J Q h k n pc Ls st := by
  subst hp
  exact Wlk.plain rfl (fun hG T t hA q => XS.iload hA hG.1 rfl (hb hG.2.1 hd) hl q) H
theorem Wlk.lloadN {j : Fin 4} {v : Int64} (hd : decode code pc = .ok (.lload_n j, 1)) (hl : Ls[j.val]? = some (.val (.long v))) (hp : pc + 1 = pc') (H : Wlk G R Z y code ret w J Q h k n pc' Ls (.long v :: st)) : Wlk G R Z y code ret w J Q h k n pc Ls st := by
  subst hp
  exact Wlk.plain rfl (fun hG T t hA q => XT.lloadN hA hG.1 rfl (hb hG.2.1 hd) hl q) H
theorem Wlk.lload {j : Nat} {v : Int64} (hd : decode code pc = .ok (.lload j, 2)) (hl : Ls[j]? = some (.val (.long v))) (hp : pc + 2 = pc') (H : Wlk G R Z y code ret w J Q h k n pc' Ls (.long v :: st)) : Wlk G R Z y code ret w J Q h k n pc Ls st := by
  subst hp
  exact Wlk.plain rfl (fun hG T t hA q => XT.lload hA hG.1 rfl (hb hG.2.1 hd) hl q) H
theorem Wlk.iconst {i : Int} {v : Int32} (hd : decode code pc = .ok (.iconst i, 1)) (hv : Int32.ofInt i = v) (hp : pc + 1 = pc') (H : Wlk G R Z y code ret w J Q h k n pc' Ls (.int v :: st)) : Wlk G R Z y code ret w J Q h k n pc Ls st := by
  subst hp
  exact Wlk.plain rfl (fun hG T t hA q => XS.iconst hA hG.1 rfl (hb hG.2.1 hd) (by rw [hv]; exact q)) H
theorem Wlk.bipush {i : Int} {v : Int32} (hd : decode code pc = .ok (.bipush i, 2)) (hv : (Int8.ofInt i).toInt32 = v) (hp : pc + 2 = pc') (H : Wlk G R Z y code ret w J Q h k n pc' Ls (.int v :: st)) : Wlk G R Z y code ret w J Q h k n pc Ls st := by
  subst hp
  exact Wlk.plain rfl (fun hG T t hA q => XS.bipush hA hG.1 rfl (hb hG.2.1 hd) (by rw [hv]; exact q)) H
theorem Wlk.sipush {i : Int} {v : Int32} (hd : decode code pc = .ok (.sipush i, 3)) (hv : (Int16.ofInt i).toInt32 = v) (hp : pc + 3 = pc') (H : Wlk G R Z y code ret w J Q h k n pc' Ls (.int v :: st)) : Wlk G R Z y code ret w J Q h k n pc Ls st := by
  subst hp
  exact Wlk.plain rfl (fun hG T t hA q => XS.sipush hA hG.1 rfl (hb hG.2.1 hd) (by rw [hv]; exact q)) H
theorem Wlk.lconst {j : Fin 2} {v : Int64} (hd : decode code pc = .ok (.lconst j, 1)) (hv : Int64.ofNat j = v) (hp : pc + 1 = pc') (H : Wlk G R Z y code ret w J Q h k n pc' Ls (.long v :: st)) : Wlk G R Z y code ret w J Q h k n pc Ls st := by
  subst hp
  exact Wlk.plain rfl (fun hG T t hA q => XT.lconst hA hG.1 rfl (hb hG.2.1 hd) (by rw [hv]; exact q)) H
theorem Wlk.aconstNull  (hd : decode code pc = .ok (.aconst_null, 1)) (hp : pc + 1 = pc') (H : Wlk G R Z y code ret w J Q h k n pc' Ls (.null :: st)) : Wlk G R Z y code ret w J Q h k n pc Ls st := by
  subst hp
  exact Wlk.plain rfl (fun hG T t hA q => XS.aconstNull hA hG.1 rfl (hb hG.2.1 hd) q) H
theorem Wlk.iadd {x z : Int32} (hd : decode code pc = .ok (.iadd, 1)) (hp : pc + 1 = pc') (H : Wlk G R Z y code ret w J Q h k n pc' Ls (.int (x + z) :: st)) : Wlk G R Z y code ret w J Q h k n pc Ls (.int z :: .int x :: st) := by
  subst hp
  exact Wlk.plain rfl (fun hG T t hA q => XS.iadd hA hG.1 rfl (hb hG.2.1 hd) rfl q) H
theorem Wlk.isub {x z : Int32} (hd : decode code pc = .ok (.isub, 1)) (hp : pc + 1 = pc') (H : Wlk G R Z y code ret w J Q h k n pc' Ls (.int (x - z) :: st)) : Wlk G R Z y code ret w J Q h k n pc Ls (.int z :: .int x :: st) := by
  subst hp
  exact Wlk.plain rfl (fun hG T t hA q => XS.isub hA hG.1 rfl (hb hG.2.1 hd) rfl q) H
theorem Wlk.imul {x z : Int32} (hd : decode code pc = .ok (.imul, 1)) (hp : pc + 1 = pc') (H : Wlk G R Z y code ret w J Q h k n pc' Ls (.int (x * z) :: st)) : Wlk G R Z y code ret w J Q h k n pc Ls (.int z :: .int x :: st) := by
  subst hp
  exact Wlk.plain rfl (fun hG T t hA q => XS.imul hA hG.1 rfl (hb hG.2.1 hd) rfl q) H
theorem Wlk.iand {x z : Int32} (hd : decode code pc = .ok (.iand, 1)) (hp : pc + 1 = pc') (H : Wlk G R Z y code ret w J Q h k n pc' Ls (.int (x &&& z) :: st)) : Wlk G R Z y code ret w J Q h k n pc Ls (.int z :: .int x :: st) := by
  subst hp
  exact Wlk.plain rfl (fun hG T t hA q => XS.iand hA hG.1 rfl (hb hG.2.1 hd) rfl q) H
theorem Wlk.ior {x z : Int32} (hd : decode code pc = .ok (.ior, 1)) (hp : pc + 1 = pc') (H : Wlk G R Z y code ret w J Q h k n pc' Ls (.int (x ||| z) :: st)) : Wlk G R Z y code ret w J Q h k n pc Ls (.int z :: .int x :: st) := by
  subst hp
  exact Wlk.plain rfl (fun hG T t hA q => XT.ior hA hG.1 rfl (hb hG.2.1 hd) rfl q) H
theorem Wlk.ixor {x z : Int32} (hd : decode code pc = .ok (.ixor, 1)) (hp : pc + 1 = pc') (H : Wlk G R Z y code ret w J Q h k n pc' Ls (.int (x ^^^ z) :: st)) : Wlk G R Z y code ret w J Q h k n pc Ls (.int z :: .int x :: st) := by
  subst hp
  exact Wlk.plain rfl (fun hG T t hA q => XT.ixor hA hG.1 rfl (hb hG.2.1 hd) rfl q) H
theorem Wlk.irem {x z : Int32} (hd : decode code pc = .ok (.irem, 1)) (hne : z ≠ 0) (hp : pc + 1 = pc') (H : Wlk G R Z y code ret w J Q h k n pc' Ls (.int (x % z) :: st)) : Wlk G R Z y code ret w J Q h k n pc Ls (.int z :: .int x :: st) := by
  subst hp
  exact Wlk.reads rfl (fun vm0 T L hG hsz X eT hZ hown hE => ⟨T, X, eT, fun t q => iremM (g := mkF G.m pc Ls (.int z :: .int x :: st)) X hG.1 rfl (hb hG.2.1 hd) rfl hne q⟩) H
theorem Wlk.idiv {x z : Int32} (hd : decode code pc = .ok (.idiv, 1)) (hne : z ≠ 0) (hp : pc + 1 = pc') (H : Wlk G R Z y code ret w J Q h k n pc' Ls (.int (x / z) :: st)) : Wlk G R Z y code ret w J Q h k n pc Ls (.int z :: .int x :: st) := by
  subst hp
  exact Wlk.plain rfl (fun hG T t hA q => XS.idiv hA hG.1 rfl (hb hG.2.1 hd) rfl hne q) H
theorem Wlk.ishl {x z : Int32} (hd : decode code pc = .ok (.ishl, 1)) (hp : pc + 1 = pc') (H : Wlk G R Z y code ret w J Q h k n pc' Ls (.int (x <<< (z &&& 31)) :: st)) : Wlk G R Z y code ret w J Q h k n pc Ls (.int z :: .int x :: st) := by
  subst hp
  exact Wlk.plain rfl (fun hG T t hA q => XT.ishl hA hG.1 rfl (hb hG.2.1 hd) rfl q) H
theorem Wlk.ishr {x z : Int32} (hd : decode code pc = .ok (.ishr, 1)) (hp : pc + 1 = pc') (H : Wlk G R Z y code ret w J Q h k n pc' Ls (.int (x >>> (z &&& 31)) :: st)) : Wlk G R Z y code ret w J Q h k n pc Ls (.int z :: .int x :: st) := by
  subst hp
  exact Wlk.plain rfl (fun hG T t hA q => XT.ishr hA hG.1 rfl (hb hG.2.1 hd) rfl q) H
theorem Wlk.iushr {x z : Int32} (hd : decode code pc = .ok (.iushr, 1)) (hp : pc + 1 = pc') (H : Wlk G R Z y code ret w J Q h k n pc' Ls (.int ((x.toUInt32 >>> (z &&& 31).toUInt32).toInt32) :: st)) : Wlk G R Z y code ret w J Q h k n pc Ls (.int z :: .int x :: st) := by
  subst hp
  exact Wlk.plain rfl (fun hG T t hA q => XT.iushr hA hG.1 rfl (hb hG.2.1 hd) rfl q) H
theorem Wlk.ladd {x z : Int64} (hd : decode code pc = .ok (.ladd, 1)) (hp : pc + 1 = pc') (H : Wlk G R Z y code ret w J Q h k n pc' Ls (.long (x + z) :: st)) : Wlk G R Z y code ret w J Q h k n pc Ls (.long z :: .long x :: st) := by
  subst hp
  exact Wlk.plain rfl (fun hG T t hA q => XT.ladd hA hG.1 rfl (hb hG.2.1 hd) rfl q) H
theorem Wlk.lsub {x z : Int64} (hd : decode code pc = .ok (.lsub, 1)) (hp : pc + 1 = pc') (H : Wlk G R Z y code ret w J Q h k n pc' Ls (.long (x - z) :: st)) : Wlk G R Z y code ret w J Q h k n pc Ls (.long z :: .long x :: st) := by
  subst hp
  exact Wlk.plain rfl (fun hG T t hA q => XT.lsub hA hG.1 rfl (hb hG.2.1 hd) rfl q) H
theorem Wlk.lmul {x z : Int64} (hd : decode code pc = .ok (.lmul, 1)) (hp : pc + 1 = pc') (H : Wlk G R Z y code ret w J Q h k n pc' Ls (.long (x * z) :: st)) : Wlk G R Z y code ret w J Q h k n pc Ls (.long z :: .long x :: st) := by
  subst hp
  exact Wlk.plain rfl (fun hG T t hA q => XT.lmul hA hG.1 rfl (hb hG.2.1 hd) rfl q) H
theorem Wlk.land {x z : Int64} (hd : decode code pc = .ok (.land, 1)) (hp : pc + 1 = pc') (H : Wlk G R Z y code ret w J Q h k n pc' Ls (.long (x &&& z) :: st)) : Wlk G R Z y code ret w J Q h k n pc Ls (.long z :: .long x :: st) := by
  subst hp
  exact Wlk.plain rfl (fun hG T t hA q => XT.land hA hG.1 rfl (hb hG.2.1 hd) rfl q) H
theorem Wlk.lor {x z : Int64} (hd : decode code pc = .ok (.lor, 1)) (hp : pc + 1 = pc') (H : Wlk G R Z y code ret w J Q h k n pc' Ls (.long (x ||| z) :: st)) : Wlk G R Z y code ret w J Q h k n pc Ls (.long z :: .long x :: st) := by
  subst hp
  exact Wlk.plain rfl (fun hG T t hA q => XT.lor hA hG.1 rfl (hb hG.2.1 hd) rfl q) H
theorem Wlk.lxor {x z : Int64} (hd : decode code pc = .ok (.lxor, 1)) (hp : pc + 1 = pc') (H : Wlk G R Z y code ret w J Q h k n pc' Ls (.long (x ^^^ z) :: st)) : Wlk G R Z y code ret w J Q h k n pc Ls (.long z :: .long x :: st) := by
  subst hp
  exact Wlk.plain rfl (fun hG T t hA q => XT.lxor hA hG.1 rfl (hb hG.2.1 hd) rfl q) H
theorem Wlk.ineg {x : Int32} (hd : decode code pc = .ok (.ineg, 1)) (hp : pc + 1 = pc') (H : Wlk G R Z y code ret w J Q h k n pc' Ls (.int (-x) :: st)) : Wlk G R Z y code ret w J Q h k n pc Ls (.int x :: st) := by
  subst hp
  exact Wlk.plain rfl (fun hG T t hA q => XS.ineg hA hG.1 rfl (hb hG.2.1 hd) rfl q) H
theorem Wlk.lushr {x : Int64} {z : Int32} (hd : decode code pc = .ok (.lushr, 1)) (hp : pc + 1 = pc') (H : Wlk G R Z y code ret w J Q h k n pc' Ls (.long (XT.ushrL x z) :: st)) : Wlk G R Z y code ret w J Q h k n pc Ls (.int z :: .long x :: st) := by
  subst hp
  exact Wlk.plain rfl (fun hG T t hA q => XT.lushr hA hG.1 rfl (hb hG.2.1 hd) rfl q) H
theorem Wlk.i2l {x : Int32} (hd : decode code pc = .ok (.i2l, 1)) (hp : pc + 1 = pc') (H : Wlk G R Z y code ret w J Q h k n pc' Ls (.long x.toInt64 :: st)) : Wlk G R Z y code ret w J Q h k n pc Ls (.int x :: st) := by
  subst hp
  exact Wlk.plain rfl (fun hG T t hA q => XT.i2l hA hG.1 rfl (hb hG.2.1 hd) rfl q) H
theorem Wlk.l2i {x : Int64} (hd : decode code pc = .ok (.l2i, 1)) (hp : pc + 1 = pc') (H : Wlk G R Z y code ret w J Q h k n pc' Ls (.int x.toInt32 :: st)) : Wlk G R Z y code ret w J Q h k n pc Ls (.long x :: st) := by
  subst hp
  exact Wlk.plain rfl (fun hG T t hA q => XT.l2i hA hG.1 rfl (hb hG.2.1 hd) rfl q) H
theorem Wlk.i2c {x : Int32} (hd : decode code pc = .ok (.i2c, 1)) (hp : pc + 1 = pc') (H : Wlk G R Z y code ret w J Q h k n pc' Ls (.int x.toUInt32.toUInt16.toUInt32.toInt32 :: st)) : Wlk G R Z y code ret w J Q h k n pc Ls (.int x :: st) := by
  subst hp
  exact Wlk.plain rfl (fun hG T t hA q => XT.i2c hA hG.1 rfl (hb hG.2.1 hd) rfl q) H
theorem Wlk.i2b {x : Int32} (hd : decode code pc = .ok (.i2b, 1)) (hp : pc + 1 = pc') (H : Wlk G R Z y code ret w J Q h k n pc' Ls (.int x.toInt8.toInt32 :: st)) : Wlk G R Z y code ret w J Q h k n pc Ls (.int x :: st) := by
  subst hp
  exact Wlk.plain rfl (fun hG T t hA q => XT.i2b hA hG.1 rfl (hb hG.2.1 hd) rfl q) H
theorem Wlk.i2s {x : Int32} (hd : decode code pc = .ok (.i2s, 1)) (hp : pc + 1 = pc') (H : Wlk G R Z y code ret w J Q h k n pc' Ls (.int x.toInt16.toInt32 :: st)) : Wlk G R Z y code ret w J Q h k n pc Ls (.int x :: st) := by
  subst hp
  exact Wlk.plain rfl (fun hG T t hA q => XT.i2s hA hG.1 rfl (hb hG.2.1 hd) rfl q) H
theorem Wlk.lcmp {x z : Int64} (hd : decode code pc = .ok (.lcmp, 1)) (hp : pc + 1 = pc') (H : Wlk G R Z y code ret w J Q h k n pc' Ls (.int (lcmpW x z) :: st)) : Wlk G R Z y code ret w J Q h k n pc Ls (.long z :: .long x :: st) := by
  subst hp
  exact Wlk.plain rfl (fun hG T t hA q => XT.lcmp hA hG.1 rfl (hb hG.2.1 hd) rfl q) H
theorem Wlk.dup {x : Value} (hd : decode code pc = .ok (.dup, 1)) (hc : x.category = 1) (hp : pc + 1 = pc') (H : Wlk G R Z y code ret w J Q h k n pc' Ls (x :: x :: st)) : Wlk G R Z y code ret w J Q h k n pc Ls (x :: st) := by
  subst hp
  exact Wlk.plain rfl (fun hG T t hA q => XS.dup hA hG.1 rfl (hb hG.2.1 hd) rfl hc q) H
theorem Wlk.pop {x : Value} (hd : decode code pc = .ok (.pop, 1)) (hc : x.category = 1) (hp : pc + 1 = pc') (H : Wlk G R Z y code ret w J Q h k n pc' Ls st) : Wlk G R Z y code ret w J Q h k n pc Ls (x :: st) := by
  subst hp
  exact Wlk.plain rfl (fun hG T t hA q => XT.pop hA hG.1 rfl (hb hG.2.1 hd) rfl hc q) H
theorem Wlk.dupX1 {x z : Value} (hd : decode code pc = .ok (.dup_x1, 1)) (hc : x.category = 1) (hc' : z.category = 1) (hp : pc + 1 = pc') (H : Wlk G R Z y code ret w J Q h k n pc' Ls (x :: z :: x :: st)) : Wlk G R Z y code ret w J Q h k n pc Ls (x :: z :: st) := by
  subst hp
  exact Wlk.plain rfl (fun hG T t hA q => XT.dupX1 hA hG.1 rfl (hb hG.2.1 hd) rfl hc hc' q) H
theorem Wlk.dup2 {x z : Value} (hd : decode code pc = .ok (.dup2, 1)) (hc : x.category = 1) (hc' : z.category = 1) (hp : pc + 1 = pc') (H : Wlk G R Z y code ret w J Q h k n pc' Ls (x :: z :: x :: z :: st)) : Wlk G R Z y code ret w J Q h k n pc Ls (x :: z :: st) := by
  subst hp
  exact Wlk.plain rfl (fun hG T t hA q => XT.dup2 hA hG.1 rfl (hb hG.2.1 hd) rfl hc hc' q) H
theorem Wlk.istoreN {j : Fin 4} {x : Int32} (hd : decode code pc = .ok (.istore_n j, 1)) (hl : storeLocals Ls j.val (.int x) = some Ls') (hz : Ls'.size = Ls.size) (hp : pc + 1 = pc') (H : Wlk G R Z y code ret w J Q h k n pc' Ls' st) : Wlk G R Z y code ret w J Q h k n pc Ls (.int x :: st) := by
  subst hp
  exact Wlk.plain hz (fun hG T t hA q => XS.istoreN hA hG.1 rfl (hb hG.2.1 hd) rfl hl q) H
theorem Wlk.istore {j : Nat} {x : Int32} (hd : decode code pc = .ok (.istore j, 2)) (hl : storeLocals Ls j (.int x) = some Ls') (hz : Ls'.size = Ls.size) (hp : pc + 2 = pc') (H : Wlk G R Z y code ret w J Q h k n pc' Ls' st) : Wlk G R Z y code ret w J Q h k n pc Ls (.int x :: st) := by
  subst hp
  exact Wlk.plain hz (fun hG T t hA q => XS.istore hA hG.1 rfl (hb hG.2.1 hd) rfl hl q) H
theorem Wlk.astoreN {j : Fin 4} {x : Value} (hd : decode code pc = .ok (.astore_n j, 1)) (hv : x.isRef = true) (hl : storeLocals Ls j.val x = some Ls') (hz : Ls'.size = Ls.size) (hp : pc + 1 = pc') (H : Wlk G R Z y code ret w J Q h k n pc' Ls' st) : Wlk G R Z y code ret w J Q h k n pc Ls (x :: st) := by
  subst hp
  exact Wlk.plain hz (fun hG T t hA q => XS.astoreN hA hG.1 rfl (hb hG.2.1 hd) rfl hv hl q) H
theorem Wlk.astore {j : Nat} {x : Value} (hd : decode code pc = .ok (.astore j, 2)) (hv : x.isRef = true) (hl : storeLocals Ls j x = some Ls') (hz : Ls'.size = Ls.size) (hp : pc + 2 = pc') (H : Wlk G R Z y code ret w J Q h k n pc' Ls' st) : Wlk G R Z y code ret w J Q h k n pc Ls (x :: st) := by
  subst hp
  exact Wlk.plain hz (fun hG T t hA q => XS.astore hA hG.1 rfl (hb hG.2.1 hd) rfl hv hl q) H
theorem Wlk.lstoreN {j : Fin 4} {x : Int64} (hd : decode code pc = .ok (.lstore_n j, 1)) (hl : storeLocals Ls j.val (.long x) = some Ls') (hz : Ls'.size = Ls.size) (hp : pc + 1 = pc') (H : Wlk G R Z y code ret w J Q h k n pc' Ls' st) : Wlk G R Z y code ret w J Q h k n pc Ls (.long x :: st) := by
  subst hp
  exact Wlk.plain hz (fun hG T t hA q => XT.lstoreN hA hG.1 rfl (hb hG.2.1 hd) rfl hl q) H
theorem Wlk.lstore {j : Nat} {x : Int64} (hd : decode code pc = .ok (.lstore j, 2)) (hl : storeLocals Ls j (.long x) = some Ls') (hz : Ls'.size = Ls.size) (hp : pc + 2 = pc') (H : Wlk G R Z y code ret w J Q h k n pc' Ls' st) : Wlk G R Z y code ret w J Q h k n pc Ls (.long x :: st) := by
  subst hp
  exact Wlk.plain hz (fun hG T t hA q => XT.lstore hA hG.1 rfl (hb hG.2.1 hd) rfl hl q) H
theorem Wlk.iinc {j : Nat} {cst : Int} {x v : Int32} (hd : decode code pc = .ok (.iinc j cst, 3)) (hv : Int32.ofInt cst = v) (hl : Ls[j]? = some (.val (.int x))) (hs : storeLocals Ls j (.int (x + v)) = some Ls') (hz : Ls'.size = Ls.size) (hp : pc + 3 = pc') (H : Wlk G R Z y code ret w J Q h k n pc' Ls' st) : Wlk G R Z y code ret w J Q h k n pc Ls st := by
  subst hp
  exact Wlk.plain hz (fun hG T t hA q => XT.iincV hA hG.1 rfl v (hb hG.2.1 hd) hv hl hs q) H
theorem Wlk.goto {o : Int} (hd : decode code pc = .ok (.goto o, 3)) (ho : 0 ≤ (pc : Int) + o) (hp : ((pc : Int) + o).toNat = pc') (H : Wlk G R Z y code ret w J Q h k n pc' Ls st) : Wlk G R Z y code ret w J Q h k n pc Ls st :=
  Wlk.plain rfl (fun hG T t hA q => XS.goto hA hG.1 rfl (pc0 := pc) rfl (hb hG.2.1 hd) ho hp q) H
theorem Wlk.ifT {cd : ClassFile.Cond} {o : Int} {x : Int32} (hd : decode code pc = .ok (.ifCond cd o, 3)) (ho : 0 ≤ (pc : Int) + o) (hp : ((pc : Int) + o).toNat = pc') (c : cT cd x 0) (H : Wlk G R Z y code ret w J Q h k n pc' Ls st) : Wlk G R Z y code ret w J Q h k n pc Ls (.int x :: st) :=
  Wlk.plain rfl (fun hG T t hA q => XS.ifYes hA hG.1 rfl (pc0 := pc) rfl (hb hG.2.1 hd) rfl ((if0 _ _).trans (cT_holds c)) ho hp q) H
theorem Wlk.ifF {cd : ClassFile.Cond} {o : Int} {x : Int32} (hd : decode code pc = .ok (.ifCond cd o, 3)) (c : cF cd x 0) (hp : pc + 3 = pc') (H : Wlk G R Z y code ret w J Q h k n pc' Ls st) : Wlk G R Z y code ret w J Q h k n pc Ls (.int x :: st) := by
  subst hp
  exact Wlk.plain rfl (fun hG T t hA q => XS.ifNo hA hG.1 rfl (hb hG.2.1 hd) rfl ((if0 _ _).trans (cF_holds c)) q) H
theorem Wlk.icT {cd : ClassFile.Cond} {o : Int} {x z : Int32} (hd : decode code pc = .ok (.if_icmp cd o, 3)) (ho : 0 ≤ (pc : Int) + o) (hp : ((pc : Int) + o).toNat = pc') (c : cT cd x z) (H : Wlk G R Z y code ret w J Q h k n pc' Ls st) : Wlk G R Z y code ret w J Q h k n pc Ls (.int z :: .int x :: st) :=
  Wlk.plain rfl (fun hG T t hA q => XS.icmpYes hA hG.1 rfl (pc0 := pc) rfl (hb hG.2.1 hd) rfl (cT_holds c) ho hp q) H
theorem Wlk.icF {cd : ClassFile.Cond} {o : Int} {x z : Int32} (hd : decode code pc = .ok (.if_icmp cd o, 3)) (c : cF cd x z) (hp : pc + 3 = pc') (H : Wlk G R Z y code ret w J Q h k n pc' Ls st) : Wlk G R Z y code ret w J Q h k n pc Ls (.int z :: .int x :: st) := by
  subst hp
  exact Wlk.plain rfl (fun hG T t hA q => XS.icmpNo hA hG.1 rfl (hb hG.2.1 hd) rfl (cF_holds c) q) H
theorem Wlk.if_ {cd : ClassFile.Cond} {o : Int} {x : Int32} {pcT pcF : Nat} (hd : decode code pc = .ok (.ifCond cd o, 3)) (ho : 0 ≤ (pc : Int) + o) (hT : ((pc : Int) + o).toNat = pcT) (hF : pc + 3 = pcF) (H1 : cT cd x 0 → Wlk G R Z y code ret w J Q h k n pcT Ls st) (H2 : cF cd x 0 → Wlk G R Z y code ret w J Q h k n pcF Ls st) : Wlk G R Z y code ret w J Q h k n pc Ls (.int x :: st) :=
  (cTF cd x 0).elim (fun c => Wlk.ifT hd ho hT c (H1 c)) (fun c => Wlk.ifF hd c hF (H2 c))
theorem Wlk.ic_ {cd : ClassFile.Cond} {o : Int} {x z : Int32} {pcT pcF : Nat} (hd : decode code pc = .ok (.if_icmp cd o, 3)) (ho : 0 ≤ (pc : Int) + o) (hT : ((pc : Int) + o).toNat = pcT) (hF : pc + 3 = pcF) (H1 : cT cd x z → Wlk G R Z y code ret w J Q h k n pcT Ls st) (H2 : cF cd x z → Wlk G R Z y code ret w J Q h k n pcF Ls st) : Wlk G R Z y code ret w J Q h k n pc Ls (.int z :: .int x :: st) :=
  (cTF cd x z).elim (fun c => Wlk.icT hd ho hT c (H1 c)) (fun c => Wlk.icF hd c hF (H2 c))
theorem Wlk.ifnullT {o : Int} (hd : decode code pc = .ok (.ifnull o, 3)) (ho : 0 ≤ (pc : Int) + o) (hp : ((pc : Int) + o).toNat = pc') (H : Wlk G R Z y code ret w J Q h k n pc' Ls st) : Wlk G R Z y code ret w J Q h k n pc Ls (.null :: st) :=
  Wlk.plain rfl (fun hG T t hA q => XS.ifnullYes hA hG.1 rfl (pc0 := pc) rfl (hb hG.2.1 hd) rfl ho hp q) H
theorem Wlk.ifnullF {o : Int} {b : Addr} (hd : decode code pc = .ok (.ifnull o, 3)) (hp : pc + 3 = pc') (H : Wlk G R Z y code ret w J Q h k n pc' Ls st) : Wlk G R Z y code ret w J Q h k n pc Ls (.ref b :: st) := by
  subst hp
  exact Wlk.plain rfl (fun hG T t hA q => XS.ifnullNo hA hG.1 rfl (hb hG.2.1 hd) rfl q) H
theorem Wlk.ifnonnullT {o : Int} {b : Addr} (hd : decode code pc = .ok (.ifnonnull o, 3)) (ho : 0 ≤ (pc : Int) + o) (hp : ((pc : Int) + o).toNat = pc') (H : Wlk G R Z y code ret w J Q h k n pc' Ls st) : Wlk G R Z y code ret w J Q h k n pc Ls (.ref b :: st) :=
  Wlk.plain rfl (fun hG T t hA q => XT.ifnonnullYes hA hG.1 rfl (pc0 := pc) rfl (hb hG.2.1 hd) rfl ho hp q) H
theorem Wlk.ifnonnullF {o : Int} (hd : decode code pc = .ok (.ifnonnull o, 3)) (hp : pc + 3 = pc') (H : Wlk G R Z y code ret w J Q h k n pc' Ls st) : Wlk G R Z y code ret w J Q h k n pc Ls (.null :: st) := by
  subst hp
  exact Wlk.plain rfl (fun hG T t hA q => XT.ifnonnullNo hA hG.1 rfl (hb hG.2.1 hd) rfl q) H
theorem Wlk.acmp {cd : ACond} {o : Int} {x z : Value} {same : Bool} (hd : decode code pc = .ok (.if_acmp cd o, 3)) (h1 : x.isRef = true) (h2 : z.isRef = true) (hq : decide (x = z) = same) (ho : 0 ≤ (pc : Int) + o) (hp : pc' = if acV cd same = true then ((pc : Int) + o).toNat else pc + 3) (H : Wlk G R Z y code ret w J Q h k n pc' Ls st) : Wlk G R Z y code ret w J Q h k n pc Ls (z :: x :: st) :=
  Wlk.reads rfl (fun vm0 T L hG hsz X eT hZ hown hE => ⟨T, X, eT, fun t q => Jvm.RoadKit.acmp (g := mkF G.m pc Ls (z :: x :: st)) X hG.1 rfl h1 h2 (pc0 := pc) rfl (hb hG.2.1 hd) rfl hq ho hp q⟩) H
theorem Wlk.ldcI {index : Nat} {v : Int32} (hd : decode code pc = .ok (.ldc index, 2)) (wd : (Cond.constant y.cls index v).before a0 Z = true) (hp : pc + 2 = pc') (H : Wlk G R Z y code ret w J Q h k n pc' Ls (.int v :: st)) : Wlk G R Z y code ret w J Q h k n pc Ls st := by
  subst hp
  exact Wlk.reads rfl (fun vm0 T L hG hsz X eT hZ hown hE => ⟨T, X, eT, fun t q => X.ldcI hG.1 hown (mvT hZ wd) (g := mkF G.m pc Ls st) rfl (hb hG.2.1 hd) q⟩) H
theorem Wlk.ldcWI {index : Nat} {v : Int32} (hd : decode code pc = .ok (.ldc_w index, 3)) (wd : (Cond.constant y.cls index v).before a0 Z = true) (hp : pc + 3 = pc') (H : Wlk G R Z y code ret w J Q h k n pc' Ls (.int v :: st)) : Wlk G R Z y code ret w J Q h k n pc Ls st := by
  subst hp
  exact Wlk.reads rfl (fun vm0 T L hG hsz X eT hZ hown hE => ⟨T, X, eT, fun t q => X.ldcWI hG.1 hown (mvT hZ wd) (g := mkF G.m pc Ls st) rfl (hb hG.2.1 hd) q⟩) H
theorem Wlk.ldc2J {index : Nat} {v : Int64} (hd : decode code pc = .ok (.ldc2_w index, 3)) (wd : (Cond.constantLong y.cls index v).before a0 Z = true) (hp : pc + 3 = pc') (H : Wlk G R Z y code ret w J Q h k n pc' Ls (.long v :: st)) : Wlk G R Z y code ret w J Q h k n pc Ls st := by
  subst hp
  exact Wlk.reads rfl (fun vm0 T L hG hsz X eT hZ hown hE => ⟨T, X, eT, fun t q => X.ldc2J hG.1 hown (mvT hZ wd) (g := mkF G.m pc Ls st) rfl (hb hG.2.1 hd) q⟩) H
theorem Wlk.getF {index : Nat} {R0 O nm d : String} {a : Addr} {v : Value} (hd : decode code pc = .ok (.getfield index, 3)) (wl : (Cond.fieldLink y.cls index R0 nm d).before a0 Z = true) (via : Via Z R0 O nm d) (F : Fld Z h a O nm d v) (hp : pc + 3 = pc') (H : Wlk G R Z y code ret w J Q h k n pc' Ls (v :: st)) : Wlk G R Z y code ret w J Q h k n pc Ls (.ref a :: st) := by
  subst hp
  exact Wlk.reads rfl (fun vm0 T L hG hsz X eT hZ hown hE => Jvm.RoadKit.getF X hG.1 hZ hown (host := "") (Or.inl wl) via eT F (g := mkF G.m pc Ls (.ref a :: st)) rfl rfl (hb hG.2.1 hd)) H
theorem Wlk.getS {index : Nat} {R0 O nm d : String} {v : Value} (hd : decode code pc = .ok (.getstatic index, 3)) (wl : (Cond.fieldLink y.cls index R0 nm d).before a0 Z = true) (via : Via Z R0 O nm d) (F : Sta Z Z.heap O nm d v) (hp : pc + 3 = pc') (H : Wlk G R Z y code ret w J Q h k n pc' Ls (v :: st)) : Wlk G R Z y code ret w J Q h k n pc Ls st := by
  subst hp
  exact Wlk.reads rfl (fun vm0 T L hG hsz X eT hZ hown hE => Jvm.RoadKit.getS (host := "") X hG.1 hZ hown wl via eT (F.ext hE) (g := mkF G.m pc Ls st) rfl (hb hG.2.1 hd)) H
theorem Wlk.castY {index : Nat} {K : String} {a : Addr} (hd : decode code pc = .ok (.checkcast index, 3)) (wl : (Cond.classLink y.cls index K).before a0 Z = true) (F : Ins Z h a K true) (hp : pc + 3 = pc') (H : Wlk G R Z y code ret w J Q h k n pc' Ls (.ref a :: st)) : Wlk G R Z y code ret w J Q h k n pc Ls (.ref a :: st) := by
  subst hp
  exact Wlk.reads rfl (fun vm0 T L hG hsz X eT hZ hown hE => Jvm.RoadKit.castY X hG.1 hZ hown wl eT F (g := mkF G.m pc Ls (.ref a :: st)) rfl rfl (hb hG.2.1 hd)) H
theorem Wlk.castNull {index : Nat} (hd : decode code pc = .ok (.checkcast index, 3)) (hp : pc + 3 = pc') (H : Wlk G R Z y code ret w J Q h k n pc' Ls (.null :: st)) : Wlk G R Z y code ret w J Q h k n pc Ls (.null :: st) := by
  subst hp
  exact Wlk.reads rfl (fun vm0 T L hG hsz X eT hZ hown hE => ⟨T, X, eT, fun t q => X.checkcastNull hG.1 (g := mkF G.m pc Ls (.null :: st)) rfl rfl (hb hG.2.1 hd) t q⟩) H
theorem Wlk.instY {index : Nat} {K : String} {a : Addr} (hd : decode code pc = .ok (.instanceof index, 3)) (wl : (Cond.classLink y.cls index K).before a0 Z = true) (F : Ins Z h a K true) (hp : pc + 3 = pc') (H : Wlk G R Z y code ret w J Q h k n pc' Ls (.int 1 :: st)) : Wlk G R Z y code ret w J Q h k n pc Ls (.ref a :: st) := by
  subst hp
  exact Wlk.reads rfl (fun vm0 T L hG hsz X eT hZ hown hE => Jvm.RoadKit.instY X hG.1 hZ hown wl eT F (g := mkF G.m pc Ls (.ref a :: st)) rfl rfl (hb hG.2.1 hd)) H
theorem Wlk.instNull {index : Nat} (hd : decode code pc = .ok (.instanceof index, 3)) (hp : pc + 3 = pc') (H : Wlk G R Z y code ret w J Q h k n pc' Ls (.int 0 :: st)) : Wlk G R Z y code ret w J Q h k n pc Ls (.null :: st) := by
  subst hp
  exact Wlk.reads rfl (fun vm0 T L hG hsz X eT hZ hown hE => ⟨T, X, eT, fun t q => X.instanceofNull hG.1 (g := mkF G.m pc Ls (.null :: st)) rfl rfl (hb hG.2.1 hd) t q⟩) H
theorem Wlk.initO {index : Nat} {a : Addr} {W : Nat} (hd : decode code pc = .ok (.invokespecial index, 3)) (w1 : (Cond.methodLink y.cls index Lib.objectInit).before a0 Z = true) (w2 : (Cond.instanceMethod Lib.objectInit).before a0 Z = true) (w3 : (Cond.code Lib.objectInit ⟨#[0xb1]⟩ 1 none).before a0 Z = true)
    (hf : 1 ≤ R.frames) (hW : (st.map fun v => v.category).sum = W) (hl : W + 12 ≤ R.locals) (hp : pc + 3 = pc') (H : Wlk G R Z y code ret w J Q h k n pc' Ls st) : Wlk G R Z y code ret w J Q h k n pc Ls (.ref a :: st) := by
  subst hp
  exact Wlk.reads rfl (fun vm0 T L hG hsz X eT hZ hown hE => Jvm.RoadKit.initO X hG.1 hZ hown w1 w2 w3 eT (g := mkF G.m pc Ls (.ref a :: st)) rfl hsz rfl (hb hG.2.1 hd) hf (W := W) (by show 2 * 0 + _ ≤ _; omega) hl) H
theorem Wlk.newO {index sl : Nat} {C : String} (hd : decode code pc = .ok (.new index, 3)) (wl : (Cond.classLink y.cls index C).before a0 Z = true) (wi : (Cond.instantiable C sl).before a0 Z = true) (wz : (Cond.initialized C).before a0 Z = true) (hc : k + 1 ≤ R.cells) (hl : n + sl ≤ R.slots) (hp : pc + 3 = pc')
    (H : ∀ (a : Addr) (h' : Heap), h.size ≤ a → Z.heap.size ≤ a → Ext h h' → Exa Z h' a C → (∀ {O nm d : String} {ty : FieldType}, Laid Z a0 C O nm d → parseFieldDescriptor d = some ty → Fld Z h' a O nm d (defaultValue ty)) → Wlk G R Z y code ret w J Q h' (k + 1) (n + sl) pc' Ls (.ref a :: st)) : Wlk G R Z y code ret w J Q h k n pc Ls st := by
  subst hp
  refine Wlk.moves (P := fun h' => Z.heap.size ≤ h.size ∧ Ext h h' ∧ Exa Z h' h.size C ∧ (∀ {O nm d : String} {ty : FieldType}, Laid Z a0 C O nm d → parseFieldDescriptor d = some ty → Fld Z h' h.size O nm d (defaultValue ty))) (st' := .ref h.size :: st) rfl (fun vm0 T L hG hsz X eT hZ hown hE hF => ?_) (fun h' q => H h.size h' (Nat.le_refl _) q.1 q.2.1 q.2.2.1 q.2.2.2)
  obtain ⟨T', h', X', e', E', A', D', -, s'⟩ := Jvm.RoadKit.newO X hG.1 hZ hown wl wi wz eT (g := mkF G.m pc Ls st) rfl (hb hG.2.1 hd) hc hl
  exact ⟨T', h', L, X', e', E'.1, ⟨Nat.le_trans hE.1 E'.1, fun a c q => E'.2 a c (hE.2 a c q)⟩, hF, ⟨hE.1, E', A', D'⟩, s'⟩
theorem Wlk.newP {aty : ArrayType} {z : Int32} {cap : Nat} {ty : FieldType} (hd : decode code pc = .ok (.newarray aty, 2)) (hty : newarray.typeOf aty = ty) (wl : (Cond.arrayClass ty).before a0 Z = true) (hn : ¬ z < 0) (hcap : z.toNatClampNeg ≤ cap) (hbig : cap * 8 ≤ 536870912) (hc : k + 1 ≤ R.cells) (hl : n + cap ≤ R.slots) (hp : pc + 2 = pc')
    (H : ∀ (a : Addr) (h' : Heap) (kc : ClassId), h.size ≤ a → Z.heap.size ≤ a → Ext h h' → Arv Z h' a kc ty z [] (defaultValue ty) → Wlk G R Z y code ret w J Q h' (k + 1) (n + cap) pc' Ls (.ref a :: st)) : Wlk G R Z y code ret w J Q h k n pc Ls (.int z :: st) := by
  subst hp hty
  refine Wlk.moves (P := fun h' => Z.heap.size ≤ h.size ∧ Ext h h' ∧ ∃ kc, Arv Z h' h.size kc (newarray.typeOf aty) z [] (defaultValue (newarray.typeOf aty))) (st' := .ref h.size :: st) rfl (fun vm0 T L hG hsz X eT hZ hown hE hF => ?_) (fun h' q => q.2.2.elim fun kc A => H h.size h' kc (Nat.le_refl _) q.1 q.2.1 A)
  obtain ⟨T', h', cA, X', e', E', A', s'⟩ := Jvm.RoadKit.newP X hG.1 hZ wl eT (g := mkF G.m pc Ls (.int z :: st)) rfl (hb hG.2.1 hd) rfl hn hcap hbig hc hl
  exact ⟨T', h', L, X', e', E'.1, ⟨Nat.le_trans hE.1 E'.1, fun a c q => E'.2 a c (hE.2 a c q)⟩, hF, ⟨hE.1, E', cA, Arv.new A' hn⟩, s'⟩
theorem Wlk.newR {index : Nat} {C : String} {z : Int32} {cap : Nat} (hd : decode code pc = .ok (.anewarray index, 3)) (wl : (Cond.classLink y.cls index C).before a0 Z = true) (w2 : (Cond.arrayOver (.object C)).before a0 Z = true) (hn : ¬ z < 0) (hcap : z.toNatClampNeg ≤ cap) (hbig : cap * 8 ≤ 536870912) (hc : k + 1 ≤ R.cells) (hl : n + cap ≤ R.slots) (hp : pc + 3 = pc')
    (H : ∀ (a : Addr) (h' : Heap) (kc : ClassId), h.size ≤ a → Z.heap.size ≤ a → Ext h h' → Ovr Z kc C → Arv Z h' a kc (.object C) z [] .null → Wlk G R Z y code ret w J Q h' (k + 1) (n + cap) pc' Ls (.ref a :: st)) : Wlk G R Z y code ret w J Q h k n pc Ls (.int z :: st) := by
  subst hp
  refine Wlk.moves (P := fun h' => Z.heap.size ≤ h.size ∧ Ext h h' ∧ ∃ kc, Ovr Z kc C ∧ Arv Z h' h.size kc (.object C) z [] .null) (st' := .ref h.size :: st) rfl (fun vm0 T L hG hsz X eT hZ hown hE hF => ?_) (fun h' q => q.2.2.elim fun kc A => H h.size h' kc (Nat.le_refl _) q.1 q.2.1 A.1 A.2)
  obtain ⟨T', h', cA, X', e', E', A', O', s'⟩ := Jvm.RoadKit.newR X hG.1 hZ hown wl w2 eT (g := mkF G.m pc Ls (.int z :: st)) rfl (hb hG.2.1 hd) rfl hn hcap hbig hc hl
  exact ⟨T', h', L, X', e', E'.1, ⟨Nat.le_trans hE.1 E'.1, fun a c q => E'.2 a c (hE.2 a c q)⟩, hF, ⟨hE.1, E', cA, O', Arv.new A' hn⟩, s'⟩
theorem ext_wr {a : Addr} {sl : Nat} {v : Value} {h' : Heap} (hE : Ext Z.heap h) (g : Z.heap.size ≤ a) (W : Wr h h' a sl v) : Ext Z.heap h' := (Old.wr (n0 := Z.heap.size) ⟨rfl, hE⟩ W g).2
theorem Wlk.putF {index sl : Nat} {R0 O nm d C : String} {a : Addr} {v old : Value} {ty : FieldType} (hd : decode code pc = .ok (.putfield index, 3)) (wl : (Cond.fieldLink y.cls index R0 nm d).before a0 Z = true) (via : Via Z R0 O nm d) (F : Fld Z h a O nm d old) (E : Exa Z h a C) (LY : (Cond.lays C O nm d).before a0 Z = true ∨ ((Cond.laysFinal C O nm d).before a0 Z = true ∧ y.cls = O ∧ y.name = "<init>")) (wi : (Cond.instantiable C sl).before a0 Z = true)
    (hty : parseFieldDescriptor d = some ty) (hn : narrow ty v = v) (hf : fits ty v = true) (g : Z.heap.size ≤ a) (hp : pc + 3 = pc') (H : ∀ h', Wr h h' a (Jvm.RoadKit.slotOf Z O nm d) v → Wlk G R Z y code ret w J Q h' k n pc' Ls st) : Wlk G R Z y code ret w J Q h k n pc Ls (v :: .ref a :: st) := by
  subst hp
  refine Wlk.moves (P := fun h' => Wr h h' a (Jvm.RoadKit.slotOf Z O nm d) v) rfl (fun vm0 T L hG hsz X eT hZ hown hE hF => ?_) H
  obtain ⟨T', h', X', e', W', s'⟩ := Jvm.RoadKit.putF X hG.1 hZ hown (host := "") (Or.inl wl) via eT F E (LY.imp id fun q => ⟨q.1, q.2.1, hG.2.2.2.2.trans q.2.2⟩) wi hty hn hf (g := mkF G.m pc Ls (v :: .ref a :: st)) rfl rfl (hb hG.2.1 hd)
  exact ⟨T', h', _, X', e', Nat.le_of_eq W'.size.symm, ext_wr hE g W', Fr.snoc X' hF g, W', s'⟩
theorem Wlk.castore {a : Addr} {kc : ClassId} {z j x : Int32} {vs : List Value} {d : Value} {i : Nat} (hd : decode code pc = .ok (.castore, 1)) (A : Arv Z h a kc .char z vs d) (hj : ¬ j < 0 ∧ j < z) (hi : j.toNatClampNeg = i) (hv : i < vs.length) (g : Z.heap.size ≤ a) (hp : pc + 1 = pc')
    (H : ∀ h', Wr h h' a i (.int (nar .char x)) → Arv Z h' a kc .char z (vs.set i (.int (nar .char x))) d → Wlk G R Z y code ret w J Q h' k n pc' Ls st) : Wlk G R Z y code ret w J Q h k n pc Ls (.int x :: .int j :: .ref a :: st) := by
  subst hp hi
  obtain ⟨cl, Ar, q1, S, N, HH, GG⟩ := A
  refine Wlk.moves (P := fun h' => Wr h h' a j.toNatClampNeg (.int (nar .char x))) rfl (fun vm0 T L hG hsz X eT hZ hown hE hF => ?_) (fun h' W => H h' W (Arv.set Ar q1 S N HH GG (fits_nar_char x) W j.toNatClampNeg rfl hv))
  obtain ⟨T', h', X', e', W', s'⟩ := Jvm.RoadKit.stC X hG.1 hZ eT Ar (j := j) (inb_of S hj) (g := mkF G.m pc Ls (.int x :: .int j :: .ref a :: st)) rfl rfl (hb hG.2.1 hd)
  exact ⟨T', h', _, X', e', Nat.le_of_eq W'.size.symm, ext_wr hE g W', Fr.snoc X' hF g, W', s'⟩
theorem Wlk.bastore {a : Addr} {kc : ClassId} {z j x : Int32} {vs : List Value} {d : Value} {i : Nat} (hd : decode code pc = .ok (.bastore, 1)) (A : Arv Z h a kc .byte z vs d) (hj : ¬ j < 0 ∧ j < z) (hi : j.toNatClampNeg = i) (hv : i < vs.length) (g : Z.heap.size ≤ a) (hp : pc + 1 = pc')
    (H : ∀ h', Wr h h' a i (.int (nar .byte x)) → Arv Z h' a kc .byte z (vs.set i (.int (nar .byte x))) d → Wlk G R Z y code ret w J Q h' k n pc' Ls st) : Wlk G R Z y code ret w J Q h k n pc Ls (.int x :: .int j :: .ref a :: st) := by
  subst hp hi
  obtain ⟨cl, Ar, q1, S, N, HH, GG⟩ := A
  refine Wlk.moves (P := fun h' => Wr h h' a j.toNatClampNeg (.int (nar .byte x))) rfl (fun vm0 T L hG hsz X eT hZ hown hE hF => ?_) (fun h' W => H h' W (Arv.set Ar q1 S N HH GG (fits_nar_byte x) W j.toNatClampNeg rfl hv))
  obtain ⟨T', h', X', e', W', s'⟩ := Jvm.RoadKit.stB X hG.1 hZ eT Ar (j := j) (inb_of S hj) (g := mkF G.m pc Ls (.int x :: .int j :: .ref a :: st)) rfl rfl (hb hG.2.1 hd)
  exact ⟨T', h', _, X', e', Nat.le_of_eq W'.size.symm, ext_wr hE g W', Fr.snoc X' hF g, W', s'⟩
theorem Wlk.iastore {a : Addr} {kc : ClassId} {z j x : Int32} {vs : List Value} {d : Value} {i : Nat} (hd : decode code pc = .ok (.iastore, 1)) (A : Arv Z h a kc .int z vs d) (hj : ¬ j < 0 ∧ j < z) (hi : j.toNatClampNeg = i) (hv : i < vs.length) (g : Z.heap.size ≤ a) (hp : pc + 1 = pc')
    (H : ∀ h', Wr h h' a i (.int x) → Arv Z h' a kc .int z (vs.set i (.int x)) d → Wlk G R Z y code ret w J Q h' k n pc' Ls st) : Wlk G R Z y code ret w J Q h k n pc Ls (.int x :: .int j :: .ref a :: st) := by
  subst hp hi
  obtain ⟨cl, Ar, q1, S, N, HH, GG⟩ := A
  refine Wlk.moves (P := fun h' => Wr h h' a j.toNatClampNeg (.int x)) rfl (fun vm0 T L hG hsz X eT hZ hown hE hF => ?_) (fun h' W => H h' W (Arv.set Ar q1 S N HH GG (rfl) W j.toNatClampNeg rfl hv))
  obtain ⟨T', h', X', e', W', s'⟩ := Jvm.RoadKit.stI X hG.1 hZ eT Ar (j := j) (inb_of S hj) (g := mkF G.m pc Ls (.int x :: .int j :: .ref a :: st)) rfl rfl (hb hG.2.1 hd)
  exact ⟨T', h', _, X', e', Nat.le_of_eq W'.size.symm, ext_wr hE g W', Fr.snoc X' hF g, W', s'⟩
theorem Wlk.aastore {a : Addr} {kc : ClassId} {z j : Int32} {v : Value} {vs : List Value} {d : Value} {i : Nat} {ty : FieldType} (hd : decode code pc = .ok (.aastore, 1)) (A : Arv Z h a kc ty z vs d) (hty : ty.isReference = true) (hfv : fits ty v = true) (F : Sto Z h a v) (hj : ¬ j < 0 ∧ j < z) (hi : j.toNatClampNeg = i) (hv : i < vs.length) (g : Z.heap.size ≤ a) (hp : pc + 1 = pc')
    (H : ∀ h', Wr h h' a i v → Arv Z h' a kc ty z (vs.set i v) d → Wlk G R Z y code ret w J Q h' k n pc' Ls st) : Wlk G R Z y code ret w J Q h k n pc Ls (v :: .int j :: .ref a :: st) := by
  subst hp hi
  obtain ⟨cl, Ar, q1, S, N, HH, GG⟩ := A
  refine Wlk.moves (P := fun h' => Wr h h' a j.toNatClampNeg v) rfl (fun vm0 T L hG hsz X eT hZ hown hE hF => ?_) (fun h' W => H h' W (Arv.set Ar q1 S N HH GG hfv W j.toNatClampNeg rfl hv))
  obtain ⟨T', h', X', e', W', s'⟩ := Jvm.RoadKit.stR X hG.1 hZ eT Ar (j := j) (inb_of S hj) hty F (g := mkF G.m pc Ls (v :: .int j :: .ref a :: st)) rfl rfl (hb hG.2.1 hd)
  exact ⟨T', h', _, X', e', Nat.le_of_eq W'.size.symm, ext_wr hE g W', Fr.snoc X' hF g, W', s'⟩
theorem Wlk.caload {a : Addr} {kc : ClassId} {z j : Int32} {vs : List Value} {d v : Value} (hd : decode code pc = .ok (.caload, 1)) (A : Arv Z h a kc .char z vs d) (hj : ¬ j < 0 ∧ j < z) (hv : vs.getD j.toNatClampNeg d = v) (hp : pc + 1 = pc') (H : Wlk G R Z y code ret w J Q h k n pc' Ls (v :: st)) : Wlk G R Z y code ret w J Q h k n pc Ls (.int j :: .ref a :: st) := by
  subst hp
  obtain ⟨cl, Ar, q1, S, N, HH, GG⟩ := A
  have hin := inb_of S hj
  exact Wlk.reads rfl (fun vm0 T L hG hsz X eT hZ hown hE => ⟨T, X, eT, fun t q => X.caload hG.1 (j := j) (v := v) (by rw [eT]; exact Ar.1) (State.isArrayOf_alike hZ.alike Ar.2.1) Ar.2.2 hin (Has.at HH hin hv) (g := mkF G.m pc Ls (.int j :: .ref a :: st)) rfl rfl (hb hG.2.1 hd) t q⟩) H
theorem Wlk.baload {a : Addr} {kc : ClassId} {z j : Int32} {vs : List Value} {d v : Value} (hd : decode code pc = .ok (.baload, 1)) (A : Arv Z h a kc .byte z vs d) (hj : ¬ j < 0 ∧ j < z) (hv : vs.getD j.toNatClampNeg d = v) (hp : pc + 1 = pc') (H : Wlk G R Z y code ret w J Q h k n pc' Ls (v :: st)) : Wlk G R Z y code ret w J Q h k n pc Ls (.int j :: .ref a :: st) := by
  subst hp
  obtain ⟨cl, Ar, q1, S, N, HH, GG⟩ := A
  have hin := inb_of S hj
  exact Wlk.reads rfl (fun vm0 T L hG hsz X eT hZ hown hE => ⟨T, X, eT, fun t q => X.baloadBytes hG.1 (j := j) (v := v) (by rw [eT]; exact Ar.1) (State.isArrayOf_alike hZ.alike Ar.2.1) Ar.2.2 hin (Has.at HH hin hv) (g := mkF G.m pc Ls (.int j :: .ref a :: st)) rfl rfl (hb hG.2.1 hd) t q⟩) H
theorem Wlk.iaload {a : Addr} {kc : ClassId} {z j : Int32} {vs : List Value} {d v : Value} (hd : decode code pc = .ok (.iaload, 1)) (A : Arv Z h a kc .int z vs d) (hj : ¬ j < 0 ∧ j < z) (hv : vs.getD j.toNatClampNeg d = v) (hp : pc + 1 = pc') (H : Wlk G R Z y code ret w J Q h k n pc' Ls (v :: st)) : Wlk G R Z y code ret w J Q h k n pc Ls (.int j :: .ref a :: st) := by
  subst hp
  obtain ⟨cl, Ar, q1, S, N, HH, GG⟩ := A
  have hin := inb_of S hj
  exact Wlk.reads rfl (fun vm0 T L hG hsz X eT hZ hown hE => ⟨T, X, eT, fun t q => X.iaload hG.1 (j := j) (v := v) (by rw [eT]; exact Ar.1) (State.isArrayOf_alike hZ.alike Ar.2.1) Ar.2.2 hin (Has.at HH hin hv) (g := mkF G.m pc Ls (.int j :: .ref a :: st)) rfl rfl (hb hG.2.1 hd) t q⟩) H
theorem Wlk.aaload {a : Addr} {kc : ClassId} {z j : Int32} {vs : List Value} {d v : Value} {ty : FieldType} (hd : decode code pc = .ok (.aaload, 1)) (A : Arv Z h a kc ty z vs d) (hty : ty.isReference = true) (hj : ¬ j < 0 ∧ j < z) (hv : vs.getD j.toNatClampNeg d = v) (hp : pc + 1 = pc') (H : Wlk G R Z y code ret w J Q h k n pc' Ls (v :: st)) : Wlk G R Z y code ret w J Q h k n pc Ls (.int j :: .ref a :: st) := by
  subst hp
  obtain ⟨cl, Ar, q1, S, N, HH, GG⟩ := A
  have hin := inb_of S hj
  exact Wlk.reads rfl (fun vm0 T L hG hsz X eT hZ hown hE => ⟨T, X, eT, fun t q => X.aaload hG.1 (j := j) (v := v) (by rw [eT]; exact Ar.1) (State.isArrayOf_alike hZ.alike Ar.2.1) hty Ar.2.2 hin (Has.at HH hin hv) (g := mkF G.m pc Ls (.int j :: .ref a :: st)) rfl rfl (hb hG.2.1 hd) t q⟩) H
theorem Wlk.arraylength {a : Addr} {kc : ClassId} {z : Int32} {vs : List Value} {d : Value} {ty : FieldType} (hd : decode code pc = .ok (.arraylength, 1)) (A : Arv Z h a kc ty z vs d) (hp : pc + 1 = pc') (H : Wlk G R Z y code ret w J Q h k n pc' Ls (.int z :: st)) : Wlk G R Z y code ret w J Q h k n pc Ls (.ref a :: st) := by
  subst hp
  obtain ⟨cl, Ar, q1, S, N, HH, GG⟩ := A
  exact Wlk.reads rfl (fun vm0 T L hG hsz X eT hZ hown hE => ⟨T, X, eT, fun t q => X.arraylength hG.1 (by rw [eT]; exact Ar.1) (State.isArrayOf_alike hZ.alike Ar.2.1) (g := mkF G.m pc Ls (.ref a :: st)) rfl rfl (hb hG.2.1 hd) t (by rw [len_of S N]; exact q)⟩) H
/-! ## the ends -/
theorem Wlk.leaves {v : Option Value} (hv : ret = none → v = none) (hstep : ∀ (vm0 : Vm) (T : State) (L : List Loc) (fs : List Frame), Cok G y code ret → Stand G.p G.l G.e R (G.s.setVm vm0) G.m G.args G.below G.meth G.c T L k n → (∀ (f : JFrame) (acts : List Action), f.method = G.m → f.locked = none → f.entered = [] → (doReturn G.e (T.setTop f) acts v).1 = T.setFrames fs) → Steps G.p.tables G.e G.below (T.setTop (mkF G.m pc Ls st)) (T.setFrames fs))
    (hc : k ≤ R.cells) (hs : n ≤ R.slots) (hq : Q v h J) : Wlk G R Z y code ret w J Q h k n pc Ls st := by
  intro hG hsz T L hP
  obtain ⟨vm0, k0, X, eT, hS, hk, hZ, hown, hw, hB, hE, hF⟩ := hP
  obtain ⟨fs, hr, hrun, hended, hend⟩ := (X.more hc hs).leaveW hS (by rw [eT]; exact hk) (v := v) (fun q => hv (hG.2.2.1.symm.trans q)) hG.2.2.2.1
  have eh : (T.setFrames fs).heap = h := eT
  refine ⟨_, _, hstep vm0 T L fs hG X hr, hrun, hended, v, L, J, rfl, ⟨by rw [eh]; exact hq, hF, by rw [eh]; exact hE, fun q => Books.warm (s := G.s) (hB q) X.warmed⟩, hend, fun q => ?_⟩
  have q' := hw q
  subst q'
  exact X.warmed
theorem Wlk.ireturnN {z : Int32} {t : FieldType} (hd : decode code pc = .ok (.ireturn, 1)) (hret : ret = some t) (ht : t = .boolean ∨ t = .byte ∨ t = .char ∨ t = .short) (hc : k ≤ R.cells) (hs : n ≤ R.slots) (hq : Q (some (.int (nar t z))) h J) : Wlk G R Z y code ret w J Q h k n pc Ls (.int z :: st) :=
  Wlk.leaves (fun q => by rw [hret] at q; cases q) (fun vm0 T L fs hG X hr => retN X hG.1 (hG.2.2.1.trans hret) ht (hb hG.2.1 hd) hr) hc hs hq
theorem Wlk.ireturnI {z : Int32} (hd : decode code pc = .ok (.ireturn, 1)) (hret : ret = some .int) (hc : k ≤ R.cells) (hs : n ≤ R.slots) (hq : Q (some (.int z)) h J) : Wlk G R Z y code ret w J Q h k n pc Ls (.int z :: st) :=
  Wlk.leaves (fun q => by rw [hret] at q; cases q) (fun vm0 T L fs hG X hr => retOut X hG.1 (hG.2.2.1.trans hret) rfl (Or.inl ⟨rfl, Or.inl rfl, z, rfl⟩) (hb hG.2.1 hd) hr) hc hs hq
theorem Wlk.areturn {v : Value} {t : FieldType} (hd : decode code pc = .ok (.areturn, 1)) (hret : ret = some t) (ht : t.isReference = true) (hv : v.isRef = true) (hn : narrow t v = v) (hc : k ≤ R.cells) (hs : n ≤ R.slots) (hq : Q (some v) h J) : Wlk G R Z y code ret w J Q h k n pc Ls (v :: st) :=
  Wlk.leaves (fun q => by rw [hret] at q; cases q) (fun vm0 T L fs hG X hr => retOut X hG.1 (hG.2.2.1.trans hret) hn (Or.inr (Or.inr (Or.inr (Or.inr ⟨rfl, ht, hv⟩)))) (hb hG.2.1 hd) hr) hc hs hq
theorem Wlk.return_ (hd : decode code pc = .ok (.return_, 1)) (hret : ret = none) (hc : k ≤ R.cells) (hs : n ≤ R.slots) (hq : Q none h J) : Wlk G R Z y code ret w J Q h k n pc Ls [] :=
  Wlk.leaves (fun _ => rfl) (fun vm0 T L fs hG X hr => X.returnOut hG.1 (hG.2.2.1.trans hret) (hb hG.2.1 hd) hr) hc hs hq
/-! ## calls -/
theorem Met.narrow {l : Launch} {y : MethodName} {zc : ByteArray} {zm : Nat} {zr : Option FieldType} {rm : Room} {as' : Array Value} {J0 : JJ} {Q' : Option Value → Heap → JJ → Prop} (M : Met l Z y zc zm zr false [] rm as' h J0 Q') (hE : Ext Z.heap h) :
    MetFree l y (head1 [Jvm.Cond.code y zc zm zr] rm) (fun a U => a = as' ∧ Z.Warmed39 U.vm ∧ U.heap = h) (fun _ _ _ _ _ => True) (fun _ U o U' => ∃ v L, o = .returned v ∧ ((∃ J', Q' v U'.heap J') ∧ Fr Z.heap.size L ∧ Ext Z.heap U'.heap ∧ h.size ≤ U'.heap.size) ∧ FrameEnd U o U' L rm.cells rm.slots) := by
  intro p e ha hc hk s m args below hf happ hP hK
  obtain ⟨n, o, h1, h2, h3, v, L, J', h4, ⟨h5, h6, h7, -⟩, h8, h9⟩ := M p e ha hc hk s m args below hf happ ⟨hP.1, hP.2.1, hP.2.2, hE, nofun⟩ hK
  exact ⟨n, o, h1, h2, h3, v, L, h4, ⟨⟨J', h5⟩, h6, h7, by have q := h8.2.2.2.2.1; rw [← hP.2.2]; exact q⟩, ⟨v, h4⟩, h9 rfl, h8.2.2.2⟩
theorem Met.wideBack {l : Launch} {p : Program} {e : Env} {s : State} {args : Array Value} {below : List Frame} {y : MethodName} {zc : ByteArray} {zm : Nat} {zr : Option FieldType} {rm : Room} {as' : Array Value} {J : JJ} {len W : Nat} {Q' : Option Value → Heap → JJ → Prop} (M : Met l Z y zc zm zr true [] rm as' h J Q') (hZ : Z.Warmed39 s.vm) (hE : Ext Z.heap h) (hB : Books Z s.vm J) (wc : (Cond.code y zc zm zr).before a0 Z = true) (wz : (Cond.initialized y.cls).before a0 Z = true) (hf : rm.frames + 1 ≤ R.frames) (hl : W + (zm + 11) + rm.locals ≤ R.locals) :
    BackS l R p e below s args y len W (fun A a => a = as' ∧ A.U.heap = h ∧ A.cells + rm.cells ≤ R.cells ∧ A.slots + rm.slots ≤ R.slots) (fun A _ v B => ∃ L, (∃ J', (Q' v B.U.heap J' ∧ Books Z B.U.vm J') ∧ Fr Z.heap.size L ∧ Ext Z.heap B.U.heap) ∧ B.locs = A.locs ++ L ∧ B.cells = A.cells + rm.cells ∧ B.slots = A.slots + rm.slots) :=
  BackS.of_freeW (bytes := zc) (maxL := zm) (ret := zr) (E := fun _ _ o t L k n => k = rm.cells ∧ n = rm.slots ∧ ∃ v J', o = .returned v ∧ (Q' v t.heap J' ∧ Books Z t.vm J') ∧ Fr Z.heap.size L ∧ Ext Z.heap t.heap) M hf hl
    (fun m meth c A a Y hp => have hU : Z.Warmed39 A.U.vm := wtrans hZ Y.warmed
      ⟨by show (Cond.and _ .tt).before a A.U = true; rw [Cond.before_and, mv hU wc]; rfl, mv hU wc, mv hU wz, hp.2.2.1, hp.2.2.2⟩)
    (fun m meth c A a g mk Y hp => ⟨hp.1, wtrans hZ Y.warmed, hp.2.1, hE, fun _ => Books.warm (s := s) (vm0 := s.vm) hB Y.warmed⟩) (fun _ _ _ _ _ _ _ _ _ => trivial)
    (fun _ _ _ _ ⟨v, L, J', h1, ⟨h2, h3, h4, h5⟩, h6⟩ => ⟨L, _, _, h6.1, rfl, rfl, v, J', h1, ⟨h2, h5 rfl⟩, h3, h4⟩)
    (fun m meth c A a g mk v t L k n Y hp _ _ ⟨e1, e2, v', J', e3, e4⟩ => by cases e3; subst e1 e2; exact ⟨L, ⟨J', e4⟩, rfl, rfl, rfl⟩)
theorem Wlk.callS {z : MethodName} {index : Nat} {zc : ByteArray} {zm : Nat} {rm : Room} {argsL : List Value} {stk : List Value} {W : Nat} {ps : List FieldType} {r : Option FieldType} {Q' : Option Value → Heap → JJ → Prop} {zr : Option FieldType} {J0 : JJ} (hd : decode code pc = .ok (.invokestatic index, 3)) (wl : (Cond.methodLink y.cls index z).before a0 Z = true) (ws : (Cond.static z).before a0 Z = true) (wz : (Cond.initialized z.cls).before a0 Z = true) (wc : (Cond.code z zc zm zr).before a0 Z = true) (hy : z.cls ≠ "java/lang/invoke/MethodHandle" ∧ z.cls ≠ "java/lang/invoke/VarHandle")
    (pd : parseMethodDescriptor z.desc = some ⟨ps, r⟩) (hlen : argsL.length = ps.length) (M : Met G.l Z z zc zm zr false [] rm argsL.toArray h J0 Q') (hf : rm.frames + 1 ≤ R.frames) (hW : (st.map fun v => v.category).sum = W) (hl : W + (zm + 11) + rm.locals ≤ R.locals) (hc : k + rm.cells ≤ R.cells) (hs : n + rm.slots ≤ R.slots) (hst : stk = argsL.reverse ++ st) (hp : pc + 3 = pc')
    (H : ∀ v h' J', Q' v h' J' → Wlk G R Z y code ret w J Q h' (k + rm.cells) (n + rm.slots) pc' Ls (v.toList ++ st)) : Wlk G R Z y code ret w J Q h k n pc Ls stk := by
  subst hp hst
  intro hG hsz T L hP
  obtain ⟨vm0, k0, X, eT, hS, hk, hZ, hown, hw, hB, hE, hF⟩ := hP
  have hZ' : Z.Warmed39 (G.s.setVm vm0).vm := hZ
  obtain ⟨v, vm₁, ⟨T', L', k', n'⟩, -, X', ⟨Lc, hQ, l1, y1, z1⟩, s'⟩ := Jvm.LawKit.callS X hG.1 (y := z) hown (mvT hZ' wl) (mvT hZ' ws) (mvT hZ' wz) (mvT hZ' wc) hy (backOf (W := W) (len := 3) (Q := fun v h' L => (∃ J', Q' v h' J') ∧ Fr Z.heap.size L ∧ Ext Z.heap h' ∧ h.size ≤ h'.size) (M.narrow hE) hZ' wc wz hf hl) (g := mkF G.m pc Ls (argsL.reverse ++ st)) rfl hsz (argsL := argsL) (rest := st) (lenOf pd hlen) rfl (by show 2 * 0 + _ ≤ _; omega) (hb hG.2.1 hd) (fun _ _ => ⟨rfl, eT, hc, hs⟩)
  dsimp only [Pt.U, Pt.locs, Pt.cells, Pt.slots] at X' l1 y1 z1 s' hQ
  subst l1 y1 z1
  obtain ⟨⟨J', hQ⟩, hFc, hEc, hgr⟩ := hQ
  obtain ⟨s₂, o, hs2, rr⟩ := H v T'.heap J' hQ hG hsz T' _ ⟨vm0, k0, X', rfl, hS, Nat.le_trans hk hgr, hZ, hown, hw, hB, hEc, Fr.app hF hFc⟩
  exact ⟨s₂, o, s' _ hs2, rr⟩
theorem Wlk.callSw {z : MethodName} {index : Nat} {zc : ByteArray} {zm : Nat} {rm : Room} {argsL : List Value} {stk : List Value} {W : Nat} {ps : List FieldType} {r : Option FieldType} {Q' : Option Value → Heap → JJ → Prop} {zr : Option FieldType} (hd : decode code pc = .ok (.invokestatic index, 3)) (wl : (Cond.methodLink y.cls index z).before a0 Z = true) (ws : (Cond.static z).before a0 Z = true) (wz : (Cond.initialized z.cls).before a0 Z = true) (wc : (Cond.code z zc zm zr).before a0 Z = true) (hy : z.cls ≠ "java/lang/invoke/MethodHandle" ∧ z.cls ≠ "java/lang/invoke/VarHandle")
    (pd : parseMethodDescriptor z.desc = some ⟨ps, r⟩) (hlen : argsL.length = ps.length) (M : Met G.l Z z zc zm zr true [] rm argsL.toArray h J Q') (hf : rm.frames + 1 ≤ R.frames) (hW : (st.map fun v => v.category).sum = W) (hl : W + (zm + 11) + rm.locals ≤ R.locals) (hc : k + rm.cells ≤ R.cells) (hs : n + rm.slots ≤ R.slots) (hst : stk = argsL.reverse ++ st) (hp : pc + 3 = pc')
    (H : ∀ v h' J', Q' v h' J' → Wlk G R Z y code ret true J' Q h' (k + rm.cells) (n + rm.slots) pc' Ls (v.toList ++ st)) : Wlk G R Z y code ret true J Q h k n pc Ls stk := by
  subst hp hst
  intro hG hsz T L hP
  obtain ⟨vm0, k0, X, eT, hS, hk, hZ, hown, hw, hB, hE, hF⟩ := hP
  have hZ' : Z.Warmed39 (G.s.setVm vm0).vm := hZ
  obtain ⟨v, vm₁, ⟨T', L', k', n'⟩, -, X', hS', hgr, ⟨Lc, hQ, l1, y1, z1⟩, s'⟩ := callSS X hG.1 (y := z) hown (mvT hZ' wl) (mvT hZ' ws) (mvT hZ' wz) (mvT hZ' wc) hy (Met.wideBack (W := W) (len := 3) M hZ' hE (hB rfl) wc wz hf hl) (g := mkF G.m pc Ls (argsL.reverse ++ st)) rfl hsz (argsL := argsL) (rest := st) (lenOf pd hlen) rfl (by show 2 * 0 + _ ≤ _; omega) (hb hG.2.1 hd) (fun _ _ => ⟨rfl, eT, hc, hs⟩)
  dsimp only [Pt.U, Pt.locs, Pt.cells, Pt.slots] at X' l1 y1 z1 s' hQ hS' hgr
  subst l1 y1 z1
  obtain ⟨J', ⟨hQ, hBc⟩, hFc, hEc⟩ := hQ
  obtain ⟨X2, hS2, hZ2, hown2⟩ := rebS (k0 := k0) (n1 := T.heap.size) hS (by rw [eT]; exact hk) X' hS' hgr hZ' hown
  obtain ⟨s₂, o, hs2, rr⟩ := H v T'.heap J' hQ hG hsz T' _ ⟨T'.vm, T'.heap.size, X2, rfl, hS2, Nat.le_refl _, hZ2, hown2, nofun, fun _ => hBc, hEc, Fr.app hF hFc⟩
  exact ⟨s₂, o, s'.trans hs2, rr⟩
theorem Wlk.callC {z : MethodName} {index : Nat} {zc : ByteArray} {zm : Nat} {rm : Room} {argsL : List Value} {stk : List Value} {W : Nat} {ps : List FieldType} {r : Option FieldType} {Q' : Option Value → Heap → JJ → Prop} {a : Addr} {J0 : JJ} (hd : decode code pc = .ok (.invokespecial index, 3)) (wl : (Cond.methodLink y.cls index z).before a0 Z = true) (wi : (Cond.instanceMethod z).before a0 Z = true) (wz : (Cond.initialized z.cls).before a0 Z = true) (wc : (Cond.code z zc zm none).before a0 Z = true) (hy : z.cls ≠ "java/lang/invoke/MethodHandle" ∧ z.cls ≠ "java/lang/invoke/VarHandle") (hin : z.name = "<init>")
    (pd : parseMethodDescriptor z.desc = some ⟨ps, r⟩) (hlen : argsL.length = ps.length) (M : Met G.l Z z zc zm none false [] rm (.ref a :: argsL).toArray h J0 Q') (hf : rm.frames + 1 ≤ R.frames) (hW : (st.map fun v => v.category).sum = W) (hl : W + (zm + 11) + rm.locals ≤ R.locals) (hc : k + rm.cells ≤ R.cells) (hs : n + rm.slots ≤ R.slots) (hst : stk = argsL.reverse ++ .ref a :: st) (hp : pc + 3 = pc')
    (H : ∀ v h' J', Q' v h' J' → Wlk G R Z y code ret w J Q h' (k + rm.cells) (n + rm.slots) pc' Ls (v.toList ++ st)) : Wlk G R Z y code ret w J Q h k n pc Ls stk := by
  subst hp hst
  intro hG hsz T L hP
  obtain ⟨vm0, k0, X, eT, hS, hk, hZ, hown, hw, hB, hE, hF⟩ := hP
  have hZ' : Z.Warmed39 (G.s.setVm vm0).vm := hZ
  obtain ⟨v, vm₁, ⟨T', L', k', n'⟩, -, X', ⟨Lc, hQ, l1, y1, z1⟩, s'⟩ := X.specialBack hG.1 (y := z) hin hown (mvT hZ' wl) (mvT hZ' wi) (mvT hZ' wc) hy (backOf (W := W) (len := 3) (Q := fun v h' L => (∃ J', Q' v h' J') ∧ Fr Z.heap.size L ∧ Ext Z.heap h' ∧ h.size ≤ h'.size) (M.narrow hE) hZ' wc wz hf hl) (g := mkF G.m pc Ls (argsL.reverse ++ .ref a :: st)) rfl hsz (Steps.refl _) (a := a) (argsL := argsL) (rest := st) (lenOf pd hlen) rfl (by show 2 * 0 + _ ≤ _; omega) (hb hG.2.1 hd) (fun _ _ => ⟨rfl, eT, hc, hs⟩)
  dsimp only [Pt.U, Pt.locs, Pt.cells, Pt.slots] at X' l1 y1 z1 s' hQ
  subst l1 y1 z1
  obtain ⟨⟨J', hQ⟩, hFc, hEc, hgr⟩ := hQ
  obtain ⟨s₂, o, hs2, rr⟩ := H v T'.heap J' hQ hG hsz T' _ ⟨vm0, k0, X', rfl, hS, Nat.le_trans hk hgr, hZ, hown, hw, hB, hEc, Fr.app hF hFc⟩
  exact ⟨s₂, o, s'.trans hs2, rr⟩
theorem Wlk.callCw {z : MethodName} {index : Nat} {zc : ByteArray} {zm : Nat} {rm : Room} {argsL : List Value} {stk : List Value} {W : Nat} {ps : List FieldType} {r : Option FieldType} {Q' : Option Value → Heap → JJ → Prop} {a : Addr} (hd : decode code pc = .ok (.invokespecial index, 3)) (wl : (Cond.methodLink y.cls index z).before a0 Z = true) (wi : (Cond.instanceMethod z).before a0 Z = true) (wz : (Cond.initialized z.cls).before a0 Z = true) (wc : (Cond.code z zc zm none).before a0 Z = true) (hy : z.cls ≠ "java/lang/invoke/MethodHandle" ∧ z.cls ≠ "java/lang/invoke/VarHandle") (hin : z.name = "<init>")
    (pd : parseMethodDescriptor z.desc = some ⟨ps, r⟩) (hlen : argsL.length = ps.length) (M : Met G.l Z z zc zm none true [] rm (.ref a :: argsL).toArray h J Q') (hf : rm.frames + 1 ≤ R.frames) (hW : (st.map fun v => v.category).sum = W) (hl : W + (zm + 11) + rm.locals ≤ R.locals) (hc : k + rm.cells ≤ R.cells) (hs : n + rm.slots ≤ R.slots) (hst : stk = argsL.reverse ++ .ref a :: st) (hp : pc + 3 = pc')
    (H : ∀ v h' J', Q' v h' J' → Wlk G R Z y code ret true J' Q h' (k + rm.cells) (n + rm.slots) pc' Ls (v.toList ++ st)) : Wlk G R Z y code ret true J Q h k n pc Ls stk := by
  subst hp hst
  intro hG hsz T L hP
  obtain ⟨vm0, k0, X, eT, hS, hk, hZ, hown, hw, hB, hE, hF⟩ := hP
  have hZ' : Z.Warmed39 (G.s.setVm vm0).vm := hZ
  obtain ⟨v, vm₁, ⟨T', L', k', n'⟩, -, X', hS', hgr, ⟨Lc, hQ, l1, y1, z1⟩, s'⟩ := X.specialBackS hG.1 (y := z) hin hown (mvT hZ' wl) (mvT hZ' wi) (mvT hZ' wc) hy (Met.wideBack (W := W) (len := 3) M hZ' hE (hB rfl) wc wz hf hl) (g := mkF G.m pc Ls (argsL.reverse ++ .ref a :: st)) rfl hsz (Steps.refl _) (a := a) (argsL := argsL) (rest := st) (lenOf pd hlen) rfl (by show 2 * 0 + _ ≤ _; omega) (hb hG.2.1 hd) (fun _ _ => ⟨rfl, eT, hc, hs⟩)
  dsimp only [Pt.U, Pt.locs, Pt.cells, Pt.slots] at X' l1 y1 z1 s' hQ hS' hgr
  subst l1 y1 z1
  obtain ⟨J', ⟨hQ, hBc⟩, hFc, hEc⟩ := hQ
  obtain ⟨X2, hS2, hZ2, hown2⟩ := rebS (k0 := k0) (n1 := T.heap.size) hS (by rw [eT]; exact hk) X' hS' hgr hZ' hown
  obtain ⟨s₂, o, hs2, rr⟩ := H v T'.heap J' hQ hG hsz T' _ ⟨T'.vm, T'.heap.size, X2, rfl, hS2, Nat.le_refl _, hZ2, hown2, nofun, fun _ => hBc, hEc, Fr.app hF hFc⟩
  exact ⟨s₂, o, s'.trans hs2, rr⟩
theorem Wlk.callV {z : MethodName} {index : Nat} {zc : ByteArray} {zm : Nat} {rm : Room} {argsL : List Value} {stk : List Value} {W : Nat} {ps : List FieldType} {r : Option FieldType} {Q' : Option Value → Heap → JJ → Prop} {zr : Option FieldType} {a : Addr} {x : MethodName} {C : String} {J0 : JJ} (hd : decode code pc = .ok (.invokevirtual index, 3)) (wl : (Cond.methodLink y.cls index x).before a0 Z = true) (wd : (Cond.declares x).before a0 Z = true) (wn : ∀ s : State, Z.Warmed39 s.vm → NotFace s x) (wsel : (Cond.selects C x z).before a0 Z = true) (wi : (Cond.instanceMethod z).before a0 Z = true) (E : Exa Z h a C) (wz : (Cond.initialized z.cls).before a0 Z = true) (wc : (Cond.code z zc zm zr).before a0 Z = true) (hy : x.cls ≠ "java/lang/invoke/MethodHandle" ∧ x.cls ≠ "java/lang/invoke/VarHandle")
    (pd : parseMethodDescriptor x.desc = some ⟨ps, r⟩) (hlen : argsL.length = ps.length) (M : Met G.l Z z zc zm zr false [] rm (.ref a :: argsL).toArray h J0 Q') (hf : rm.frames + 1 ≤ R.frames) (hW : (st.map fun v => v.category).sum = W) (hl : W + (zm + 11) + rm.locals ≤ R.locals) (hc : k + rm.cells ≤ R.cells) (hs : n + rm.slots ≤ R.slots) (hst : stk = argsL.reverse ++ .ref a :: st) (hp : pc + 3 = pc')
    (H : ∀ v h' J', Q' v h' J' → Wlk G R Z y code ret w J Q h' (k + rm.cells) (n + rm.slots) pc' Ls (v.toList ++ st)) : Wlk G R Z y code ret w J Q h k n pc Ls stk := by
  subst hp hst
  intro hG hsz T L hP
  obtain ⟨vm0, k0, X, eT, hS, hk, hZ, hown, hw, hB, hE, hF⟩ := hP
  have hZ' : Z.Warmed39 (G.s.setVm vm0).vm := hZ
  obtain ⟨cq, kq, qa, qb, qc⟩ := isOf hZ' eT E
  obtain ⟨v, vm₁, ⟨T', L', k', n'⟩, -, X', ⟨Lc, hQ, l1, y1, z1⟩, s'⟩ := X.virtualBack hG.1 (y := x) (z := z) hown (mvT hZ' wl) (mvT hZ' wd) (wn _ hZ') (mvT hZ' wsel) (mvT hZ' wi) hy (backOf (W := W) (len := 3) (Q := fun v h' L => (∃ J', Q' v h' J') ∧ Fr Z.heap.size L ∧ Ext Z.heap h' ∧ h.size ≤ h'.size) (M.narrow hE) hZ' wc wz hf hl) qa qc (g := mkF G.m pc Ls (argsL.reverse ++ .ref a :: st)) rfl hsz (Steps.refl _) (argsL := argsL) (rest := st) (lenOf pd hlen) rfl (by show 2 * 0 + _ ≤ _; omega) (hb hG.2.1 hd) (fun _ _ => ⟨rfl, eT, hc, hs⟩)
  dsimp only [Pt.U, Pt.locs, Pt.cells, Pt.slots] at X' l1 y1 z1 s' hQ
  subst l1 y1 z1
  obtain ⟨⟨J', hQ⟩, hFc, hEc, hgr⟩ := hQ
  obtain ⟨s₂, o, hs2, rr⟩ := H v T'.heap J' hQ hG hsz T' _ ⟨vm0, k0, X', rfl, hS, Nat.le_trans hk hgr, hZ, hown, hw, hB, hEc, Fr.app hF hFc⟩
  exact ⟨s₂, o, s'.trans hs2, rr⟩
theorem Wlk.callVw {z : MethodName} {index : Nat} {zc : ByteArray} {zm : Nat} {rm : Room} {argsL : List Value} {stk : List Value} {W : Nat} {ps : List FieldType} {r : Option FieldType} {Q' : Option Value → Heap → JJ → Prop} {zr : Option FieldType} {a : Addr} {x : MethodName} {C : String} (hd : decode code pc = .ok (.invokevirtual index, 3)) (wl : (Cond.methodLink y.cls index x).before a0 Z = true) (wd : (Cond.declares x).before a0 Z = true) (wn : ∀ s : State, Z.Warmed39 s.vm → NotFace s x) (wsel : (Cond.selects C x z).before a0 Z = true) (wi : (Cond.instanceMethod z).before a0 Z = true) (E : Exa Z h a C) (wz : (Cond.initialized z.cls).before a0 Z = true) (wc : (Cond.code z zc zm zr).before a0 Z = true) (hy : x.cls ≠ "java/lang/invoke/MethodHandle" ∧ x.cls ≠ "java/lang/invoke/VarHandle")
    (pd : parseMethodDescriptor x.desc = some ⟨ps, r⟩) (hlen : argsL.length = ps.length) (M : Met G.l Z z zc zm zr true [] rm (.ref a :: argsL).toArray h J Q') (hf : rm.frames + 1 ≤ R.frames) (hW : (st.map fun v => v.category).sum = W) (hl : W + (zm + 11) + rm.locals ≤ R.locals) (hc : k + rm.cells ≤ R.cells) (hs : n + rm.slots ≤ R.slots) (hst : stk = argsL.reverse ++ .ref a :: st) (hp : pc + 3 = pc')
    (H : ∀ v h' J', Q' v h' J' → Wlk G R Z y code ret true J' Q h' (k + rm.cells) (n + rm.slots) pc' Ls (v.toList ++ st)) : Wlk G R Z y code ret true J Q h k n pc Ls stk := by
  subst hp hst
  intro hG hsz T L hP
  obtain ⟨vm0, k0, X, eT, hS, hk, hZ, hown, hw, hB, hE, hF⟩ := hP
  have hZ' : Z.Warmed39 (G.s.setVm vm0).vm := hZ
  obtain ⟨cq, kq, qa, qb, qc⟩ := isOf hZ' eT E
  obtain ⟨v, vm₁, ⟨T', L', k', n'⟩, -, X', hS', hgr, ⟨Lc, hQ, l1, y1, z1⟩, s'⟩ := X.virtualBackS hG.1 (y := x) (z := z) hown (mvT hZ' wl) (mvT hZ' wd) (wn _ hZ') (mvT hZ' wsel) (mvT hZ' wi) hy (Met.wideBack (W := W) (len := 3) M hZ' hE (hB rfl) wc wz hf hl) qa qc (g := mkF G.m pc Ls (argsL.reverse ++ .ref a :: st)) rfl hsz (Steps.refl _) (argsL := argsL) (rest := st) (lenOf pd hlen) rfl (by show 2 * 0 + _ ≤ _; omega) (hb hG.2.1 hd) (fun _ _ => ⟨rfl, eT, hc, hs⟩)
  dsimp only [Pt.U, Pt.locs, Pt.cells, Pt.slots] at X' l1 y1 z1 s' hQ hS' hgr
  subst l1 y1 z1
  obtain ⟨J', ⟨hQ, hBc⟩, hFc, hEc⟩ := hQ
  obtain ⟨X2, hS2, hZ2, hown2⟩ := rebS (k0 := k0) (n1 := T.heap.size) hS (by rw [eT]; exact hk) X' hS' hgr hZ' hown
  obtain ⟨s₂, o, hs2, rr⟩ := H v T'.heap J' hQ hG hsz T' _ ⟨T'.vm, T'.heap.size, X2, rfl, hS2, Nat.le_refl _, hZ2, hown2, nofun, fun _ => hBc, hEc, Fr.app hF hFc⟩
  exact ⟨s₂, o, s'.trans hs2, rr⟩
theorem Wlk.callP {z : MethodName} {index : Nat} {zc : ByteArray} {zm : Nat} {rm : Room} {argsL : List Value} {stk : List Value} {W : Nat} {ps : List FieldType} {r : Option FieldType} {Q' : Option Value → Heap → JJ → Prop} {zr : Option FieldType} {a : Addr} {J0 : JJ} (hd : decode code pc = .ok (.invokevirtual index, 3)) (wl : (Cond.methodLink y.cls index z).before a0 Z = true) (wi : (Cond.instanceMethod z).before a0 Z = true) (wsel : (Cond.selects z.cls z z).before a0 Z = true) (wp : (Cond.privateMethod z).before a0 Z = true) {C : String} (E : Exa Z h a C) (wz : (Cond.initialized z.cls).before a0 Z = true) (wc : (Cond.code z zc zm zr).before a0 Z = true) (hy : z.cls ≠ "java/lang/invoke/MethodHandle" ∧ z.cls ≠ "java/lang/invoke/VarHandle")
    (pd : parseMethodDescriptor z.desc = some ⟨ps, r⟩) (hlen : argsL.length = ps.length) (M : Met G.l Z z zc zm zr false [] rm (.ref a :: argsL).toArray h J0 Q') (hf : rm.frames + 1 ≤ R.frames) (hW : (st.map fun v => v.category).sum = W) (hl : W + (zm + 11) + rm.locals ≤ R.locals) (hc : k + rm.cells ≤ R.cells) (hs : n + rm.slots ≤ R.slots) (hst : stk = argsL.reverse ++ .ref a :: st) (hp : pc + 3 = pc')
    (H : ∀ v h' J', Q' v h' J' → Wlk G R Z y code ret w J Q h' (k + rm.cells) (n + rm.slots) pc' Ls (v.toList ++ st)) : Wlk G R Z y code ret w J Q h k n pc Ls stk := by
  subst hp hst
  intro hG hsz T L hP
  obtain ⟨vm0, k0, X, eT, hS, hk, hZ, hown, hw, hB, hE, hF⟩ := hP
  have hZ' : Z.Warmed39 (G.s.setVm vm0).vm := hZ
  obtain ⟨cq, q1, q2⟩ := E.cell
  obtain ⟨v, vm₁, ⟨T', L', k', n'⟩, -, X', ⟨Lc, hQ, l1, y1, z1⟩, s'⟩ := X.privateBack hG.1 (y := z) hown (mvT hZ' wl) (mvT hZ' wi) (mvT hZ' wsel) (Cond.privateMethod_at (mvP hZ' wp (args := #[]))) (mvT hZ' wc) hy (backOf (W := W) (len := 3) (Q := fun v h' L => (∃ J', Q' v h' J') ∧ Fr Z.heap.size L ∧ Ext Z.heap h' ∧ h.size ≤ h'.size) (M.narrow hE) hZ' wc wz hf hl) (g := mkF G.m pc Ls (argsL.reverse ++ .ref a :: st)) rfl hsz (Steps.refl _) (a := a) (by rw [eT]; exact q1) q2 (argsL := argsL) (rest := st) (lenOf pd hlen) rfl (by show 2 * 0 + _ ≤ _; omega) (hb hG.2.1 hd) (fun _ _ => ⟨rfl, eT, hc, hs⟩)
  dsimp only [Pt.U, Pt.locs, Pt.cells, Pt.slots] at X' l1 y1 z1 s' hQ
  subst l1 y1 z1
  obtain ⟨⟨J', hQ⟩, hFc, hEc, hgr⟩ := hQ
  obtain ⟨s₂, o, hs2, rr⟩ := H v T'.heap J' hQ hG hsz T' _ ⟨vm0, k0, X', rfl, hS, Nat.le_trans hk hgr, hZ, hown, hw, hB, hEc, Fr.app hF hFc⟩
  exact ⟨s₂, o, s'.trans hs2, rr⟩
theorem Wlk.callPw {z : MethodName} {index : Nat} {zc : ByteArray} {zm : Nat} {rm : Room} {argsL : List Value} {stk : List Value} {W : Nat} {ps : List FieldType} {r : Option FieldType} {Q' : Option Value → Heap → JJ → Prop} {zr : Option FieldType} {a : Addr} (hd : decode code pc = .ok (.invokevirtual index, 3)) (wl : (Cond.methodLink y.cls index z).before a0 Z = true) (wi : (Cond.instanceMethod z).before a0 Z = true) (wsel : (Cond.selects z.cls z z).before a0 Z = true) (wp : (Cond.privateMethod z).before a0 Z = true) {C : String} (E : Exa Z h a C) (wz : (Cond.initialized z.cls).before a0 Z = true) (wc : (Cond.code z zc zm zr).before a0 Z = true) (hy : z.cls ≠ "java/lang/invoke/MethodHandle" ∧ z.cls ≠ "java/lang/invoke/VarHandle")
    (pd : parseMethodDescriptor z.desc = some ⟨ps, r⟩) (hlen : argsL.length = ps.length) (M : Met G.l Z z zc zm zr true [] rm (.ref a :: argsL).toArray h J Q') (hf : rm.frames + 1 ≤ R.frames) (hW : (st.map fun v => v.category).sum = W) (hl : W + (zm + 11) + rm.locals ≤ R.locals) (hc : k + rm.cells ≤ R.cells) (hs : n + rm.slots ≤ R.slots) (hst : stk = argsL.reverse ++ .ref a :: st) (hp : pc + 3 = pc')
    (H : ∀ v h' J', Q' v h' J' → Wlk G R Z y code ret true J' Q h' (k + rm.cells) (n + rm.slots) pc' Ls (v.toList ++ st)) : Wlk G R Z y code ret true J Q h k n pc Ls stk := by
  subst hp hst
  intro hG hsz T L hP
  obtain ⟨vm0, k0, X, eT, hS, hk, hZ, hown, hw, hB, hE, hF⟩ := hP
  have hZ' : Z.Warmed39 (G.s.setVm vm0).vm := hZ
  obtain ⟨cq, q1, q2⟩ := E.cell
  obtain ⟨v, vm₁, ⟨T', L', k', n'⟩, -, X', hS', hgr, ⟨Lc, hQ, l1, y1, z1⟩, s'⟩ := X.privateBackS hG.1 (y := z) hown (mvT hZ' wl) (mvT hZ' wi) (mvT hZ' wsel) (Cond.privateMethod_at (mvP hZ' wp (args := #[]))) (mvT hZ' wc) hy (Met.wideBack (W := W) (len := 3) M hZ' hE (hB rfl) wc wz hf hl) (g := mkF G.m pc Ls (argsL.reverse ++ .ref a :: st)) rfl hsz (Steps.refl _) (a := a) (by rw [eT]; exact q1) q2 (argsL := argsL) (rest := st) (lenOf pd hlen) rfl (by show 2 * 0 + _ ≤ _; omega) (hb hG.2.1 hd) (fun _ _ => ⟨rfl, eT, hc, hs⟩)
  dsimp only [Pt.U, Pt.locs, Pt.cells, Pt.slots] at X' l1 y1 z1 s' hQ hS' hgr
  subst l1 y1 z1
  obtain ⟨J', ⟨hQ, hBc⟩, hFc, hEc⟩ := hQ
  obtain ⟨X2, hS2, hZ2, hown2⟩ := rebS (k0 := k0) (n1 := T.heap.size) hS (by rw [eT]; exact hk) X' hS' hgr hZ' hown
  obtain ⟨s₂, o, hs2, rr⟩ := H v T'.heap J' hQ hG hsz T' _ ⟨T'.vm, T'.heap.size, X2, rfl, hS2, Nat.le_refl _, hZ2, hown2, nofun, fun _ => hBc, hEc, Fr.app hF hFc⟩
  exact ⟨s₂, o, s'.trans hs2, rr⟩
theorem Wlk.callI {z : MethodName} {index : Nat} {zc : ByteArray} {zm : Nat} {rm : Room} {argsL : List Value} {stk : List Value} {W : Nat} {ps : List FieldType} {r : Option FieldType} {Q' : Option Value → Heap → JJ → Prop} {zr : Option FieldType} {a : Addr} {x : MethodName} {C : String} {count : Nat} {J0 : JJ} (hd : decode code pc = .ok (.invokeinterface index count, 5)) (wl : (Cond.methodLink y.cls index x).before a0 Z = true) (wd : (Cond.declares x).before a0 Z = true) (wf : ∀ s : State, Z.Warmed39 s.vm → (Cond.interfaceMethod x.cls x.cls x.name x.desc).before G.args s = true) (wsel : (Cond.selects C x z).before a0 Z = true) (wi : (Cond.instanceMethod z).before a0 Z = true) (wpub : (Cond.publicMethod z).before a0 Z = true) (wun : (Cond.unhidden C x.name x.desc).before a0 Z = true) (wca : (Cond.castable C x.cls).before a0 Z = true) (E : Exa Z h a C) (wz : (Cond.initialized z.cls).before a0 Z = true) (wc : (Cond.code z zc zm zr).before a0 Z = true) (hy : x.cls ≠ "java/lang/invoke/MethodHandle" ∧ x.cls ≠ "java/lang/invoke/VarHandle")
    (pd : parseMethodDescriptor x.desc = some ⟨ps, r⟩) (hlen : argsL.length = ps.length) (M : Met G.l Z z zc zm zr false [] rm (.ref a :: argsL).toArray h J0 Q') (hf : rm.frames + 1 ≤ R.frames) (hW : (st.map fun v => v.category).sum = W) (hl : W + (zm + 11) + rm.locals ≤ R.locals) (hc : k + rm.cells ≤ R.cells) (hs : n + rm.slots ≤ R.slots) (hst : stk = argsL.reverse ++ .ref a :: st) (hp : pc + 5 = pc')
    (H : ∀ v h' J', Q' v h' J' → Wlk G R Z y code ret w J Q h' (k + rm.cells) (n + rm.slots) pc' Ls (v.toList ++ st)) : Wlk G R Z y code ret w J Q h k n pc Ls stk := by
  subst hp hst
  intro hG hsz T L hP
  obtain ⟨vm0, k0, X, eT, hS, hk, hZ, hown, hw, hB, hE, hF⟩ := hP
  have hZ' : Z.Warmed39 (G.s.setVm vm0).vm := hZ
  obtain ⟨cq, kq, qa, qb, qc⟩ := isOf hZ' eT E
  obtain ⟨v, vm₁, ⟨T', L', k', n'⟩, -, X', ⟨Lc, hQ, l1, y1, z1⟩, s'⟩ := X.interfaceBack hG.1 (xi := x) (y := z) hown (mvT hZ' wl) (mvT hZ' wd) (wf _ hZ') (mvT hZ' wsel) (mvT hZ' wi) (mvT hZ' wpub) (mvT hZ' wun) (mvT hZ' wca) hy (backOf (W := W) (len := 5) (Q := fun v h' L => (∃ J', Q' v h' J') ∧ Fr Z.heap.size L ∧ Ext Z.heap h' ∧ h.size ≤ h'.size) (M.narrow hE) hZ' wc wz hf hl) qa qb qc (g := mkF G.m pc Ls (argsL.reverse ++ .ref a :: st)) rfl hsz (Steps.refl _) (argsL := argsL) (rest := st) (lenOf pd hlen) rfl (by show 2 * 0 + _ ≤ _; omega) (hb hG.2.1 hd) (fun _ _ => ⟨rfl, eT, hc, hs⟩)
  dsimp only [Pt.U, Pt.locs, Pt.cells, Pt.slots] at X' l1 y1 z1 s' hQ
  subst l1 y1 z1
  obtain ⟨⟨J', hQ⟩, hFc, hEc, hgr⟩ := hQ
  obtain ⟨s₂, o, hs2, rr⟩ := H v T'.heap J' hQ hG hsz T' _ ⟨vm0, k0, X', rfl, hS, Nat.le_trans hk hgr, hZ, hown, hw, hB, hEc, Fr.app hF hFc⟩
  exact ⟨s₂, o, s'.trans hs2, rr⟩
theorem Wlk.callIw {z : MethodName} {index : Nat} {zc : ByteArray} {zm : Nat} {rm : Room} {argsL : List Value} {stk : List Value} {W : Nat} {ps : List FieldType} {r : Option FieldType} {Q' : Option Value → Heap → JJ → Prop} {zr : Option FieldType} {a : Addr} {x : MethodName} {C : String} {count : Nat} (hd : decode code pc = .ok (.invokeinterface index count, 5)) (wl : (Cond.methodLink y.cls index x).before a0 Z = true) (wd : (Cond.declares x).before a0 Z = true) (wf : ∀ s : State, Z.Warmed39 s.vm → (Cond.interfaceMethod x.cls x.cls x.name x.desc).before G.args s = true) (wsel : (Cond.selects C x z).before a0 Z = true) (wi : (Cond.instanceMethod z).before a0 Z = true) (wpub : (Cond.publicMethod z).before a0 Z = true) (wun : (Cond.unhidden C x.name x.desc).before a0 Z = true) (wca : (Cond.castable C x.cls).before a0 Z = true) (E : Exa Z h a C) (wz : (Cond.initialized z.cls).before a0 Z = true) (wc : (Cond.code z zc zm zr).before a0 Z = true) (hy : x.cls ≠ "java/lang/invoke/MethodHandle" ∧ x.cls ≠ "java/lang/invoke/VarHandle")
    (pd : parseMethodDescriptor x.desc = some ⟨ps, r⟩) (hlen : argsL.length = ps.length) (M : Met G.l Z z zc zm zr true [] rm (.ref a :: argsL).toArray h J Q') (hf : rm.frames + 1 ≤ R.frames) (hW : (st.map fun v => v.category).sum = W) (hl : W + (zm + 11) + rm.locals ≤ R.locals) (hc : k + rm.cells ≤ R.cells) (hs : n + rm.slots ≤ R.slots) (hst : stk = argsL.reverse ++ .ref a :: st) (hp : pc + 5 = pc')
    (H : ∀ v h' J', Q' v h' J' → Wlk G R Z y code ret true J' Q h' (k + rm.cells) (n + rm.slots) pc' Ls (v.toList ++ st)) : Wlk G R Z y code ret true J Q h k n pc Ls stk := by
  subst hp hst
  intro hG hsz T L hP
  obtain ⟨vm0, k0, X, eT, hS, hk, hZ, hown, hw, hB, hE, hF⟩ := hP
  have hZ' : Z.Warmed39 (G.s.setVm vm0).vm := hZ
  obtain ⟨cq, kq, qa, qb, qc⟩ := isOf hZ' eT E
  obtain ⟨v, vm₁, ⟨T', L', k', n'⟩, -, X', hS', hgr, ⟨Lc, hQ, l1, y1, z1⟩, s'⟩ := X.interfaceBackS hG.1 (xi := x) (y := z) hown (mvT hZ' wl) (mvT hZ' wd) (wf _ hZ') (mvT hZ' wsel) (mvT hZ' wi) (mvT hZ' wpub) (mvT hZ' wun) (mvT hZ' wca) hy (Met.wideBack (W := W) (len := 5) M hZ' hE (hB rfl) wc wz hf hl) qa qb qc (g := mkF G.m pc Ls (argsL.reverse ++ .ref a :: st)) rfl hsz (Steps.refl _) (argsL := argsL) (rest := st) (lenOf pd hlen) rfl (by show 2 * 0 + _ ≤ _; omega) (hb hG.2.1 hd) (fun _ _ => ⟨rfl, eT, hc, hs⟩)
  dsimp only [Pt.U, Pt.locs, Pt.cells, Pt.slots] at X' l1 y1 z1 s' hQ hS' hgr
  subst l1 y1 z1
  obtain ⟨J', ⟨hQ, hBc⟩, hFc, hEc⟩ := hQ
  obtain ⟨X2, hS2, hZ2, hown2⟩ := rebS (k0 := k0) (n1 := T.heap.size) hS (by rw [eT]; exact hk) X' hS' hgr hZ' hown
  obtain ⟨s₂, o, hs2, rr⟩ := H v T'.heap J' hQ hG hsz T' _ ⟨T'.vm, T'.heap.size, X2, rfl, hS2, Nat.le_refl _, hZ2, hown2, nofun, fun _ => hBc, hEc, Fr.app hF hFc⟩
  exact ⟨s₂, o, s'.trans hs2, rr⟩
/-- a constructor that a pasted law of the kit pays -/
theorem Wlk.callCB {z : MethodName} {index : Nat} {zc : ByteArray} {zm ck cs : Nat} {argsL : List Value} {stk : List Value} {W : Nat} {ps : List FieldType} {r : Option FieldType} {QQ : Option Value → Heap → List Loc → Prop} {a : Addr} (hd : decode code pc = .ok (.invokespecial index, 3)) (wl : (Cond.methodLink y.cls index z).before a0 Z = true) (wi : (Cond.instanceMethod z).before a0 Z = true) (wc : (Cond.code z zc zm none).before a0 Z = true) (hy : z.cls ≠ "java/lang/invoke/MethodHandle" ∧ z.cls ≠ "java/lang/invoke/VarHandle") (hin : z.name = "<init>")
    (pd : parseMethodDescriptor z.desc = some ⟨ps, r⟩) (hlen : argsL.length = ps.length) (hW : (st.map fun v => v.category).sum = W)
    (hK : ∀ s : State, Z.Warmed39 s.vm → Ext Z.heap h → Back G.l R G.p G.e G.below s G.args z 3 W (fun P v => v = (.ref a :: argsL).toArray ∧ P.U.heap = h ∧ P.cells + ck ≤ R.cells ∧ P.slots + cs ≤ R.slots) (fun P _ v B => ∃ L, QQ v B.U.heap L ∧ B.locs = P.locs ++ L ∧ B.cells = P.cells + ck ∧ B.slots = P.slots + cs))
    (hQ : ∀ v h' L, Ext Z.heap h → QQ v h' L → Fr Z.heap.size L ∧ Ext Z.heap h' ∧ h.size ≤ h'.size) (hc : k + ck ≤ R.cells) (hs : n + cs ≤ R.slots) (hst : stk = argsL.reverse ++ .ref a :: st) (hp : pc + 3 = pc')
    (H : ∀ v h' L, QQ v h' L → Wlk G R Z y code ret w J Q h' (k + ck) (n + cs) pc' Ls (v.toList ++ st)) : Wlk G R Z y code ret w J Q h k n pc Ls stk := by
  subst hp hst
  intro hG hsz T L hP
  obtain ⟨vm0, k0, X, eT, hS, hk, hZ, hown, hw, hB, hE, hF⟩ := hP
  have hZ' : Z.Warmed39 (G.s.setVm vm0).vm := hZ
  obtain ⟨v, vm₁, ⟨T', L', k', n'⟩, -, X', ⟨Lc, hQ1, l1, y1, z1⟩, s'⟩ := X.specialBack hG.1 (y := z) hin hown (mvT hZ' wl) (mvT hZ' wi) (mvT hZ' wc) hy (hK _ hZ' hE) (g := mkF G.m pc Ls (argsL.reverse ++ .ref a :: st)) rfl hsz (Steps.refl _) (a := a) (argsL := argsL) (rest := st) (lenOf pd hlen) rfl (by show 2 * 0 + _ ≤ _; omega) (hb hG.2.1 hd) (fun _ _ => ⟨rfl, eT, hc, hs⟩)
  dsimp only [Pt.U, Pt.locs, Pt.cells, Pt.slots] at X' l1 y1 z1 s' hQ1
  subst l1 y1 z1
  obtain ⟨hFc, hEc, hgr⟩ := hQ _ _ _ hE hQ1
  obtain ⟨s₂, o, hs2, rr⟩ := H v T'.heap Lc hQ1 hG hsz T' _ ⟨vm0, k0, X', rfl, hS, Nat.le_trans hk hgr, hZ, hown, hw, hB, hEc, Fr.app hF hFc⟩
  exact ⟨s₂, o, s'.trans hs2, rr⟩
theorem ext_keep {a : Addr} {h' : Heap} (hE : Ext Z.heap h) (g : Z.heap.size ≤ a) (K : Keep h h' [a]) : Ext Z.heap h' := (Old.keep (n0 := Z.heap.size) ⟨rfl, hE⟩ K (allS g all0)).2
/-! ## String constants (wide walks) -/
theorem Stand.rebase {p : Program} {l : Launch} {e : Env} {s : State} {m : MethodId} {args : Array Value} {below : List Frame} {meth : Method} {c : Code} {T : State} {locs : List Loc} {cells slots ck cs : Nat} (X : Stand p l e R s m args below meth c T locs cells slots) (hc : cells + ck ≤ R.cells) (hs : slots + cs ≤ R.slots) :
    Stand p l e ({ frames := R.frames, cells := ck, slots := cs, locals := R.locals } : Room) (({ s with heap := T.heap, slotsUsed := T.slotsUsed } : State).setVm T.vm) m args below meth c T [] 0 0 := by
  have Y := X.retabled X.warmed.wide
  have hroom : (({ s with heap := T.heap, slotsUsed := T.slotsUsed } : State).setVm T.vm).hasRoom e.platform ({ frames := R.frames, cells := ck, slots := cs, locals := R.locals } : Room) = true := by
    have h0 := Y.room
    have h1 := X.heapSize
    have h2 := X.used
    have h3 := X.book
    simp only [State.hasRoom, Bool.and_eq_true, decide_eq_true_eq] at h0 ⊢
    obtain ⟨⟨⟨⟨a1, a2⟩, a3⟩, a4⟩, a5⟩ := h0
    refine ⟨⟨⟨⟨a1, a2⟩, ?_⟩, ?_⟩, h3⟩
    · have a3' : s.heap.size + R.cells ≤ e.platform.maxCells := a3
      show T.heap.size + ck ≤ _
      omega
    · have a4' : s.slotsUsed + R.slots ≤ e.platform.maxSlots := a4
      show T.slotsUsed + cs ≤ _
      omega
  refine ⟨Y.admits, Y.cas, Y.clock, Y.frames, hroom, Y.hears, Y.method, Y.code, X.here, X.tail, State.WarmedH.refl T, X.limits, X.bytes, ?_⟩
  refine ⟨?_, Nat.le_refl _, Nat.le_refl _, ?_, ?_, fun a cl ha => ⟨cl, ha, rfl, rfl, fun _ _ => rfl⟩⟩
  · have q := Y.same.1
    exact q
  · show T.slotsUsed = T.slotsUsed + ((T.heap.toList.drop T.heap.size).map (·.slots.size)).sum
    rw [List.drop_eq_nil_of_le (Nat.le_of_eq Array.length_toList)]
    rfl
  · show ((T.heap.toList.drop T.heap.size).map (·.slots.size)).sum ≤ 0
    rw [List.drop_eq_nil_of_le (Nat.le_of_eq Array.length_toList)]
    exact Nat.le_refl _
theorem Stand.unbase {p : Program} {l : Launch} {e : Env} {s : State} {m : MethodId} {args : Array Value} {below : List Frame} {meth : Method} {c : Code} {T T' : State} {R' : Room} {locs l₂ : List Loc} {cells slots c₂ n₂ k1 : Nat} (X : Stand p l e R s m args below meth c T locs cells slots)
    (X' : Stand p l e R' (({ s with heap := T.heap, slotsUsed := T.slotsUsed } : State).setVm T'.vm) m args below meth c T' l₂ c₂ n₂) (hS : (({ s with heap := T.heap, slotsUsed := T.slotsUsed } : State).setVm T.vm).Since T'.vm k1) (hk : k1 ≤ T'.heap.size) :
    Stand p l e R (s.setVm T'.vm) m args below meth c T' (locs ++ l₂) (cells + c₂) (slots + n₂) ∧ s.Since T'.vm T'.heap.size ∧ T.Warmed39 T'.vm := by
  have hW : T.Warmed39 T'.vm := hS.1
  obtain ⟨q1, q2⟩ := X.movedW (T₂ := T') X'.here X'.tail (X'.limits.trans X.limits.symm) (X'.bytes.trans X.bytes.symm) hW (hS.2.mono hk) (by
    obtain ⟨b1, b2, b3, b4, b5, b6⟩ := X'.same
    refine ⟨?_, b2, b3, b4, b5, b6⟩
    have e1 := X.same.1
    have e2 : T.setFrames T'.frames = ({ s.setFrames T'.frames with heap := T.heap, slotsUsed := T.slotsUsed } : State).setVm T.vm := by
      have e3 : (T.setVm s.vm).setFrames T'.frames = ({ s.setFrames T.frames with heap := T.heap, slotsUsed := T.slotsUsed } : State).setFrames T'.frames := congrArg (fun u : State => u.setFrames T'.frames) e1
      have e4 : ({ s.setFrames T.frames with heap := T.heap, slotsUsed := T.slotsUsed } : State).setFrames T'.frames = ({ s.setFrames T'.frames with heap := T.heap, slotsUsed := T.slotsUsed } : State) := by
        have := State.setFrames_setFrames s T.frames T'.frames
        show ({ (s.setFrames T.frames).setFrames T'.frames with heap := T.heap, slotsUsed := T.slotsUsed } : State) = _
        rw [this]
      have e5 := congrArg (fun u : State => u.setVm T.vm) (e3.trans e4)
      exact e5
    have b1' : T'.setVm T'.vm = ({ ((({ s with heap := T.heap, slotsUsed := T.slotsUsed } : State).setVm T'.vm).setFrames T'.frames) with heap := T'.heap, slotsUsed := T'.slotsUsed } : State) := b1
    have b2' := congrArg (fun u : State => u.setVm T.vm) b1'
    show T'.setVm T.vm = ({ T.setFrames T'.frames with heap := T'.heap, slotsUsed := T'.slotsUsed } : State)
    rw [e2]
    exact b2')
  exact ⟨q1, q2, hW⟩
/-- a constant's first load: what is pushed is a Latin-1 String with the text's bytes -/
theorem Wlk.ldcNew {index nn : Nat} {text : String} {Ts : List String} {Lt : List (String × Nat × Addr)} {vs : List Value} {z : Int32} (hd : decode code pc = .ok (.ldc index, 2)) (wl : (Cond.stringLink y.cls index text).before a0 Z = true) (wS : ∀ a ∈ Bundle.stringAtoms, a.before a0 Z = true) (hnot : text ∉ Ts) (hh : Jvm.Lit.constHeld Z y.cls index) (hcw : Jvm.Lit.compactW.before a0 Z = true)
    (ht : (∀ c ∈ text.toList, c.toNat < 256) ∧ text.toList.map (fun c => Value.int (Jvm.Lit.byteI c.toNat.toUInt16)) = vs) (hz : ¬ z < 0) (hl : z.toNatClampNeg = vs.length) (hn : 4 * text.toList.length ≤ nn) (hbig : nn ≤ 536870912) (hc : k + 2 ≤ R.cells) (hs : n + (nn + 4) ≤ R.slots) (hp : pc + 2 = pc')
    (H : ∀ (a b : Addr) (kb : ClassId) (h' : Heap), Ext h h' → Exa Z h' a "java/lang/String" → Fld Z h' a "java/lang/String" "coder" "B" (.int 0) → Fld Z h' a "java/lang/String" "value" "[B" (.ref b) → Arv Z h' b kb .byte z vs (.int 0) → Wlk G R Z y code ret true (true, text :: Ts, (y.cls, index, a) :: Lt) Q h' (k + 2) (n + (nn + 4)) pc' Ls (.ref a :: st)) :
    Wlk G R Z y code ret true (true, Ts, Lt) Q h k n pc Ls st := by
  subst hp
  intro hG hsz T L hP
  obtain ⟨vm0, k0, X, eT, hS, hk, hZ, hown, hw, hB, hE, hF⟩ := hP
  have hWT : (G.s.setVm vm0).WarmedH T.vm := X.warmed
  have hBT : Books Z T.vm (true, Ts, Lt) := Books.warm (s := G.s) (hB rfl) hWT
  have hZT : Z.Warmed39 T.vm := State.Warmed39.trans (t := G.s.setVm vm0) hZ hWT.wide
  have hownT : T.vm.findClass y.cls = some G.m.cls := by rw [hWT.alike.findClass]; exact hown
  have Y := Stand.rebase (ck := 2) (cs := nn + 4) X hc hs
  obtain ⟨a, T', h', k1, b, kb, X', e', E', hS', hk', hZ', hown', A1, A2, A3, A4, -, -, I', Lit', s'⟩ := ldcSVL (s := ({ G.s.setVm vm0 with heap := T.heap, slotsUsed := T.slotsUsed } : State).setVm T.vm) (vm0 := T.vm) (g := mkF G.m pc Ls st) Y hG.1 hZT hownT wl wS eT (k0 := 0) ((State.WarmedH.refl (({ G.s.setVm vm0 with heap := T.heap, slotsUsed := T.slotsUsed } : State).setVm T.vm)).since 0) (Nat.zero_le _) (Fr.nil _) (fun b cl q => by show T.heap[b]? = some cl; rw [eT]; exact hE.2 b cl q) (hBT rfl).1 hnot hh hcw ht hz hl rfl (hb hG.2.1 hd) hn hbig (by show 0 + 2 ≤ 2; omega) (by show 0 + (nn + 4) ≤ nn + 4; omega)
  obtain ⟨X2, hS2, hWT'⟩ := Stand.unbase X X' hS' (by rw [e']; exact hk')
  have eL : L ++ [] = L := List.append_nil L
  rw [eL] at X2
  have X3 := X2.mono (cells' := k + 2) (slots' := n + (nn + 4)) (by omega) (by omega)
  have hEh : Ext Z.heap h' := ⟨Nat.le_trans hE.1 E'.1, fun x cl q => E'.2 x cl (hE.2 x cl q)⟩
  have hB' : Books Z T'.vm (true, text :: Ts, (y.cls, index, a) :: Lt) := fun _ => ⟨I', fun x hx => by
    rcases List.mem_cons.mp hx with rfl | hx
    · exact Lit'
    · exact Lit.stays (s := T) ((hBT rfl).2 x hx) hWT'⟩
  obtain ⟨s₂, o, hs2, rr⟩ := H a b kb h' E' A1 A2 A3 A4 hG hsz T' L ⟨T'.vm, T'.heap.size, X3, e', hS.trans hS2 (by rw [e']; exact Nat.le_trans hk E'.1), by rw [e']; exact Nat.le_refl _, hZ', hown', nofun, fun _ => hB', hEh, hF⟩
  exact ⟨s₂, o, s' _ hs2, rr⟩
/-- a load of an entry that is known to be resolved -/
theorem Wlk.ldcOld {index : Nat} {text : String} {Ts : List String} {Lt : List (String × Nat × Addr)} {a : Addr} (hd : decode code pc = .ok (.ldc index, 2)) (wl : (Cond.stringLink y.cls index text).before a0 Z = true) (hin : (y.cls, index, a) ∈ Lt) (hp : pc + 2 = pc')
    (H : Wlk G R Z y code ret true (true, Ts, Lt) Q h k n pc' Ls (.ref a :: st)) : Wlk G R Z y code ret true (true, Ts, Lt) Q h k n pc Ls st := by
  subst hp
  intro hG hsz T L hP
  obtain ⟨s₂, o, hs, r⟩ := H hG hsz T L hP
  obtain ⟨vm0, k0, X, eT, hS, hk, hZ, hown, hw, hB, hE, hF⟩ := hP
  exact ⟨s₂, o, ldcAgain X hG.1 hZ hown wl ((hB rfl rfl).2 _ hin) (g := mkF G.m pc Ls st) rfl (hb hG.2.1 hd) _ hs, r⟩
/-- a load of which nothing is known but that it pushes a reference -/
theorem Wlk.ldcAny {index nn : Nat} {text : String} {J' : JJ} (hJ : J'.1 = false) (hd : decode code pc = .ok (.ldc index, 2)) (wl : (Cond.stringLink y.cls index text).before a0 Z = true) (wS : ∀ a ∈ Bundle.stringAtoms, a.before a0 Z = true) (hn : 4 * text.toList.length ≤ nn) (hbig : nn ≤ 536870912) (hc : k + 2 ≤ R.cells) (hs : n + (nn + 4) ≤ R.slots) (hp : pc + 2 = pc')
    (H : ∀ (a : Addr) (h' : Heap), Ext h h' → Wlk G R Z y code ret true J' Q h' (k + 2) (n + (nn + 4)) pc' Ls (.ref a :: st)) : Wlk G R Z y code ret true J Q h k n pc Ls st := by
  subst hp
  intro hG hsz T L hP
  obtain ⟨vm0, k0, X, eT, hS, hk, hZ, hown, hw, hB, hE, hF⟩ := hP
  obtain ⟨a, T', h', k1, X', e', E', hS', hk', hZ', hown', s'⟩ := ldcS X hG.1 hZ hown wl wS eT hS hk (g := mkF G.m pc Ls st) rfl (hb hG.2.1 hd) hn hbig hc hs
  have hEh : Ext Z.heap h' := ⟨Nat.le_trans hE.1 E'.1, fun x cl q => E'.2 x cl (hE.2 x cl q)⟩
  obtain ⟨s₂, o, hs2, rr⟩ := H a h' E' hG hsz T' L ⟨T'.vm, k1, X', e', hS', hk', hZ', hown', nofun, fun _ q => (by rw [hJ] at q; cases q), hEh, hF⟩
  exact ⟨s₂, o, s' _ hs2, rr⟩
end Walk
end Jvm.Own
namespace Jvm.Own
open Sem ClassFile Op Lib Jvm.Stand Jvm.Free Jvm.LawKit Jvm.RoadKit
/-! ## numbers -/
theorem i32_toInt {i : Nat} (h : i < 2147483648) : (Int32.ofNat i).toInt = i := Int32.toInt_ofNat_small (by omega)
theorem z32 : (0 : Int32).toInt = 0 := by decide
theorem i32_nn {i : Nat} (h : i < 2147483648) : ¬ Int32.ofNat i < 0 := by
  rw [Int32.lt_iff_toInt_lt, i32_toInt h, z32]; omega
theorem i32_cl {i : Nat} (h : i < 2147483648) : (Int32.ofNat i).toNatClampNeg = i := by
  show (Int32.ofNat i).toInt.toNat = i
  rw [i32_toInt h]; rfl
theorem i32_lt {i j : Nat} (hi : i < 2147483648) (hj : j < 2147483648) : Int32.ofNat i < Int32.ofNat j ↔ i < j := by
  rw [Int32.lt_iff_toInt_lt, i32_toInt hi, i32_toInt hj]; omega
theorem i32_eq {i j : Nat} (hi : i < 2147483648) (hj : j < 2147483648) : Int32.ofNat i = Int32.ofNat j ↔ i = j := by
  rw [← Int32.toInt_inj, i32_toInt hi, i32_toInt hj]; omega
theorem i32_add (i j : Nat) : Int32.ofNat i + Int32.ofNat j = Int32.ofNat (i + j) := (Int32.ofNat_add i j).symm
theorem i32_succ (i : Nat) : Int32.ofNat i + 1 = Int32.ofNat (i + 1) := i32_add i 1
/-! ## what a String's bytes are -/
/-- a char's byte in a Latin-1 String -/
def bL (c : Int32) : Int32 := c.toInt8.toInt32
/-- .. its second byte in a UTF-16 one -/
def bH (c : Int32) : Int32 := (c >>> 8).toInt8.toInt32
theorem nar_bL (c : Int32) : nar .byte (bL c) = bL c := by simp [nar, bL]
theorem nar_bH (c : Int32) : nar .byte (bH c) = bH c := by simp [nar, bH]
def vL (cs : List Int32) : List Value := cs.map fun c => .int (bL c)
def vU : List Int32 → List Value
  | [] => []
  | c :: cs => .int (bL c) :: .int (bH c) :: vU cs
def vC (cs : List Int32) : List Value := cs.map Value.int
/-- the chars ahead of the first that is above 255 -/
def lat (cs : List Int32) : List Int32 := cs.takeWhile fun c => decide (¬ (255 : Int32) < c)
theorem lat_app {pre rest : List Int32} (h : ∀ c ∈ pre, ¬ (255 : Int32) < c) : lat (pre ++ rest) = pre ++ lat rest := by
  unfold lat
  rw [List.takeWhile_append_of_pos (fun c hc => decide_eq_true (h c hc))]
theorem lat_all {cs : List Int32} (h : ∀ c ∈ cs, ¬ (255 : Int32) < c) : lat cs = cs := by
  have := lat_app (rest := []) h
  simpa [lat] using this
theorem lat_stop {c : Int32} {rest : List Int32} (h : (255 : Int32) < c) : lat (c :: rest) = [] := by simp [lat, h]
theorem lat_mem : ∀ {cs : List Int32}, lat cs = cs → ∀ c ∈ cs, ¬ (255 : Int32) < c
  | [], _, c, hc => nomatch hc
  | x :: cs, h, c, hc => by
    by_cases hx : (255 : Int32) < x
    · rw [lat_stop hx] at h
      cases h
    · have h2 : lat (x :: cs) = x :: lat cs := by unfold lat; rw [List.takeWhile_cons, if_pos (decide_eq_true hx)]
      rw [h2] at h
      injection h with _ h3
      rcases List.mem_cons.mp hc with rfl | hc
      · exact hx
      · exact lat_mem h3 c hc
end Jvm.Own
namespace Jvm.Own
open Sem ClassFile Op Lib Jvm.Stand Jvm.Free Jvm.LawKit Jvm.RoadKit
theorem set_vL (pre : List Int32) (c : Int32) : (vL pre ++ List.replicate 1 (Value.int 0)).set pre.length (Value.int (nar .byte c.toInt8.toInt32)) = vL (pre ++ [c]) := by
  have e : (vL pre).length = pre.length := by simp [vL]
  rw [← e, List.set_append_right _ _ (Nat.le_refl _)]
  simp [vL, nar, bL]
end Jvm.Own
namespace Jvm.Own
open Sem ClassFile Op Lib Jvm.Stand Jvm.Free Jvm.LawKit Jvm.RoadKit
/-- a Latin-1 String at s, its bytes at t, that spells cs -/
def StrL (Z : State) (h : Heap) (s t : Addr) (cs : List Int32) : Prop :=
  Exa Z h s "java/lang/String" ∧ Fld Z h s "java/lang/String" "value" "[B" (.ref t) ∧ Fld Z h s "java/lang/String" "coder" "B" (.int 0) ∧ ∃ kb, Arv Z h t kb .byte (Int32.ofNat cs.length) (vL cs) (.int 0)
theorem StrL.ext {Z : State} {h h' : Heap} {s t : Addr} {cs : List Int32} (S : StrL Z h s t cs) (E : Ext h h') : StrL Z h' s t cs := by
  obtain ⟨a, b, c, kb, d⟩ := S
  exact ⟨a.ext E, b.ext E, c.ext E, kb, d.ext E⟩
theorem StrL.keep {Z : State} {h h' : Heap} {s t : Addr} {cs : List Int32} {ws : List Addr} (S : StrL Z h s t cs) (K : Keep h h' ws) (q1 : s ∉ ws) (q2 : t ∉ ws) : StrL Z h' s t cs := by
  obtain ⟨a, b, c, kb, d⟩ := S
  exact ⟨a.keep K, b.keep K q1, c.keep K q1, kb, d.keep K q2⟩
theorem StrL.wr {Z : State} {h h' : Heap} {s t a : Addr} {cs : List Int32} {sl : Nat} {v : Value} (S : StrL Z h s t cs) (W : Wr h h' a sl v) (q1 : s ≠ a) (q2 : t ≠ a) : StrL Z h' s t cs := by
  obtain ⟨x, b, c, kb, d⟩ := S
  exact ⟨x.wr W, b.other W (Or.inl q1), c.other W (Or.inl q1), kb, d.other W q2⟩
theorem StrL.lt {Z : State} {h : Heap} {s t : Addr} {cs : List Int32} (S : StrL Z h s t cs) : s < h.size := S.1.lt
theorem StrL.ltT {Z : State} {h : Heap} {s t : Addr} {cs : List Int32} (S : StrL Z h s t cs) : t < h.size := by obtain ⟨-, -, -, kb, d⟩ := S; exact d.lt
end Jvm.Own
namespace Jvm.Own
open Sem ClassFile Op Lib Jvm.Stand Jvm.Free Jvm.LawKit Jvm.RoadKit
theorem sto_arv {Z : State} {h : Heap} {a x : Addr} {k : ClassId} {ty : FieldType} {z : Int32} {vs : List Value} {d : Value} {C : String} (A : Arv Z h a k ty z vs d) (O : Ovr Z k C) (I : Ins Z h x C true) : Sto Z h a (.ref x) := by
  obtain ⟨c, Ar, q, -⟩ := A
  exact Sto.ofV Ar q O I
end Jvm.Own
namespace Jvm.Pilot.@@N@@
open Jvm Jvm.ClassFile Sem Op Lib Jvm.Free Jvm.Stand Jvm.LawKit Jvm.RoadKit Jvm.Own Bundle Jvm.Pilot.@@N@@.Jvm.D
theorem dc_jdk_52_method_21_code_0 : decode jdk_52_method_21_code 0 = .ok (.iconst 0, 1) := by decide +kernel
theorem dc_jdk_52_method_21_code_1 : decode jdk_52_method_21_code 1 = .ok (.istore 5, 2) := by decide +kernel
theorem dc_jdk_52_method_21_code_3 : decode jdk_52_method_21_code 3 = .ok (.iload 5, 2) := by decide +kernel
theorem dc_jdk_52_method_21_code_5 : decode jdk_52_method_21_code 5 = .ok (.iload 4, 2) := by decide +kernel
theorem dc_jdk_52_method_21_code_7 : decode jdk_52_method_21_code 7 = .ok (.if_icmp .ge 37, 3) := by decide +kernel
theorem dc_jdk_52_method_21_code_44 : decode jdk_52_method_21_code 44 = .ok (.iload 4, 2) := by decide +kernel
theorem dc_jdk_52_method_21_code_46 : decode jdk_52_method_21_code 46 = .ok (.ireturn, 1) := by decide +kernel
theorem dc_jdk_52_method_21_code_10 : decode jdk_52_method_21_code 10 = .ok (.aload_n 0, 1) := by decide +kernel
theorem dc_jdk_52_method_21_code_11 : decode jdk_52_method_21_code 11 = .ok (.iload_n 1, 1) := by decide +kernel
theorem dc_jdk_52_method_21_code_12 : decode jdk_52_method_21_code 12 = .ok (.caload, 1) := by decide +kernel
theorem dc_jdk_52_method_21_code_13 : decode jdk_52_method_21_code 13 = .ok (.istore 6, 2) := by decide +kernel
theorem dc_jdk_52_method_21_code_15 : decode jdk_52_method_21_code 15 = .ok (.iload 6, 2) := by decide +kernel
theorem dc_jdk_52_method_21_code_17 : decode jdk_52_method_21_code 17 = .ok (.sipush 255, 3) := by decide +kernel
theorem dc_jdk_52_method_21_code_20 : decode jdk_52_method_21_code 20 = .ok (.if_icmp .le 6, 3) := by decide +kernel
theorem dc_jdk_52_method_21_code_26 : decode jdk_52_method_21_code 26 = .ok (.aload_n 2, 1) := by decide +kernel
theorem dc_jdk_52_method_21_code_27 : decode jdk_52_method_21_code 27 = .ok (.iload_n 3, 1) := by decide +kernel
theorem dc_jdk_52_method_21_code_28 : decode jdk_52_method_21_code 28 = .ok (.iload 6, 2) := by decide +kernel
theorem dc_jdk_52_method_21_code_30 : decode jdk_52_method_21_code 30 = .ok (.i2b, 1) := by decide +kernel
theorem dc_jdk_52_method_21_code_31 : decode jdk_52_method_21_code 31 = .ok (.bastore, 1) := by decide +kernel
theorem dc_jdk_52_method_21_code_32 : decode jdk_52_method_21_code 32 = .ok (.iinc 1 1, 3) := by decide +kernel
theorem dc_jdk_52_method_21_code_35 : decode jdk_52_method_21_code 35 = .ok (.iinc 3 1, 3) := by decide +kernel
theorem dc_jdk_52_method_21_code_38 : decode jdk_52_method_21_code 38 = .ok (.iinc 5 1, 3) := by decide +kernel
theorem dc_jdk_52_method_21_code_41 : decode jdk_52_method_21_code 41 = .ok (.goto (-38), 3) := by decide +kernel
theorem dc_jdk_52_method_21_code_23 : decode jdk_52_method_21_code 23 = .ok (.iload 5, 2) := by decide +kernel
theorem dc_jdk_52_method_21_code_25 : decode jdk_52_method_21_code 25 = .ok (.ireturn, 1) := by decide +kernel
theorem dc_jdk_52_method_16_code_0 : decode jdk_52_method_16_code 0 = .ok (.iload_n 2, 1) := by decide +kernel
theorem dc_jdk_52_method_16_code_1 : decode jdk_52_method_16_code 1 = .ok (.newarray .byte, 2) := by decide +kernel
theorem dc_jdk_52_method_16_code_3 : decode jdk_52_method_16_code 3 = .ok (.astore_n 3, 1) := by decide +kernel
theorem dc_jdk_52_method_16_code_4 : decode jdk_52_method_16_code 4 = .ok (.aload_n 0, 1) := by decide +kernel
theorem dc_jdk_52_method_16_code_5 : decode jdk_52_method_16_code 5 = .ok (.iload_n 1, 1) := by decide +kernel
theorem dc_jdk_52_method_16_code_6 : decode jdk_52_method_16_code 6 = .ok (.aload_n 3, 1) := by decide +kernel
theorem dc_jdk_52_method_16_code_7 : decode jdk_52_method_16_code 7 = .ok (.iconst 0, 1) := by decide +kernel
theorem dc_jdk_52_method_16_code_8 : decode jdk_52_method_16_code 8 = .ok (.iload_n 2, 1) := by decide +kernel
theorem dc_jdk_52_method_16_code_9 : decode jdk_52_method_16_code 9 = .ok (.invokestatic 115, 3) := by decide +kernel
theorem dc_jdk_52_method_16_code_12 : decode jdk_52_method_16_code 12 = .ok (.istore 4, 2) := by decide +kernel
theorem dc_jdk_52_method_16_code_14 : decode jdk_52_method_16_code 14 = .ok (.iload 4, 2) := by decide +kernel
theorem dc_jdk_52_method_16_code_16 : decode jdk_52_method_16_code 16 = .ok (.iload_n 2, 1) := by decide +kernel
theorem dc_jdk_52_method_16_code_17 : decode jdk_52_method_16_code 17 = .ok (.if_icmp .eq 40, 3) := by decide +kernel
theorem dc_jdk_52_method_16_code_57 : decode jdk_52_method_16_code 57 = .ok (.aload_n 3, 1) := by decide +kernel
theorem dc_jdk_52_method_16_code_58 : decode jdk_52_method_16_code 58 = .ok (.areturn, 1) := by decide +kernel
theorem dc_jdk_52_method_15_code_0 : decode jdk_52_method_15_code 0 = .ok (.iload_n 1, 1) := by decide +kernel
theorem dc_jdk_52_method_15_code_1 : decode jdk_52_method_15_code 1 = .ok (.aload_n 0, 1) := by decide +kernel
theorem dc_jdk_52_method_15_code_2 : decode jdk_52_method_15_code 2 = .ok (.arraylength, 1) := by decide +kernel
theorem dc_jdk_52_method_15_code_3 : decode jdk_52_method_15_code 3 = .ok (.isub, 1) := by decide +kernel
theorem dc_jdk_52_method_15_code_4 : decode jdk_52_method_15_code 4 = .ok (.bipush 31, 2) := by decide +kernel
theorem dc_jdk_52_method_15_code_6 : decode jdk_52_method_15_code 6 = .ok (.iushr, 1) := by decide +kernel
theorem dc_jdk_52_method_15_code_7 : decode jdk_52_method_15_code 7 = .ok (.i2b, 1) := by decide +kernel
theorem dc_jdk_52_method_15_code_8 : decode jdk_52_method_15_code 8 = .ok (.ireturn, 1) := by decide +kernel
theorem dc_jdk_42_method_149_code_0 : decode jdk_42_method_149_code 0 = .ok (.aload_n 0, 1) := by decide +kernel
theorem dc_jdk_42_method_149_code_1 : decode jdk_42_method_149_code 1 = .ok (.invokespecial 1, 3) := by decide +kernel
theorem dc_jdk_42_method_149_code_4 : decode jdk_42_method_149_code 4 = .ok (.iload_n 3, 1) := by decide +kernel
theorem dc_jdk_42_method_149_code_5 : decode jdk_42_method_149_code 5 = .ok (.ifCond .ne 22, 3) := by decide +kernel
theorem dc_jdk_42_method_149_code_27 : decode jdk_42_method_149_code 27 = .ok (.getstatic 38, 3) := by decide +kernel
theorem dc_jdk_42_method_149_code_30 : decode jdk_42_method_149_code 30 = .ok (.ifCond .eq 28, 3) := by decide +kernel
theorem dc_jdk_42_method_149_code_33 : decode jdk_42_method_149_code 33 = .ok (.aload_n 1, 1) := by decide +kernel
theorem dc_jdk_42_method_149_code_34 : decode jdk_42_method_149_code 34 = .ok (.iload_n 2, 1) := by decide +kernel
theorem dc_jdk_42_method_149_code_35 : decode jdk_42_method_149_code 35 = .ok (.iload_n 3, 1) := by decide +kernel
theorem dc_jdk_42_method_149_code_36 : decode jdk_42_method_149_code 36 = .ok (.invokestatic 177, 3) := by decide +kernel
theorem dc_jdk_42_method_149_code_39 : decode jdk_42_method_149_code 39 = .ok (.astore 5, 2) := by decide +kernel
theorem dc_jdk_42_method_149_code_41 : decode jdk_42_method_149_code 41 = .ok (.aload_n 0, 1) := by decide +kernel
theorem dc_jdk_42_method_149_code_42 : decode jdk_42_method_149_code 42 = .ok (.aload 5, 2) := by decide +kernel
theorem dc_jdk_42_method_149_code_44 : decode jdk_42_method_149_code 44 = .ok (.iload_n 3, 1) := by decide +kernel
theorem dc_jdk_42_method_149_code_45 : decode jdk_42_method_149_code 45 = .ok (.invokestatic 47, 3) := by decide +kernel
theorem dc_jdk_42_method_149_code_48 : decode jdk_42_method_149_code 48 = .ok (.putfield 15, 3) := by decide +kernel
theorem dc_jdk_42_method_149_code_51 : decode jdk_42_method_149_code 51 = .ok (.aload_n 0, 1) := by decide +kernel
theorem dc_jdk_42_method_149_code_52 : decode jdk_42_method_149_code 52 = .ok (.aload 5, 2) := by decide +kernel
theorem dc_jdk_42_method_149_code_54 : decode jdk_42_method_149_code 54 = .ok (.putfield 9, 3) := by decide +kernel
theorem dc_jdk_42_method_149_code_57 : decode jdk_42_method_149_code 57 = .ok (.return_, 1) := by decide +kernel
theorem dc_jdk_42_method_3_code_0 : decode jdk_42_method_3_code 0 = .ok (.aload_n 0, 1) := by decide +kernel
theorem dc_jdk_42_method_3_code_1 : decode jdk_42_method_3_code 1 = .ok (.aload_n 1, 1) := by decide +kernel
theorem dc_jdk_42_method_3_code_2 : decode jdk_42_method_3_code 2 = .ok (.iconst 0, 1) := by decide +kernel
theorem dc_jdk_42_method_3_code_3 : decode jdk_42_method_3_code 3 = .ok (.aload_n 1, 1) := by decide +kernel
theorem dc_jdk_42_method_3_code_4 : decode jdk_42_method_3_code 4 = .ok (.arraylength, 1) := by decide +kernel
theorem dc_jdk_42_method_3_code_5 : decode jdk_42_method_3_code 5 = .ok (.aconst_null, 1) := by decide +kernel
theorem dc_jdk_42_method_3_code_6 : decode jdk_42_method_3_code 6 = .ok (.invokespecial 27, 3) := by decide +kernel
theorem dc_jdk_42_method_3_code_9 : decode jdk_42_method_3_code 9 = .ok (.return_, 1) := by decide +kernel
theorem dc_jdk_22_method_1_code_0 : decode jdk_22_method_1_code 0 = .ok (.aload_n 0, 1) := by decide +kernel
theorem dc_jdk_22_method_1_code_1 : decode jdk_22_method_1_code 1 = .ok (.invokespecial 1, 3) := by decide +kernel
theorem dc_jdk_22_method_1_code_4 : decode jdk_22_method_1_code 4 = .ok (.return_, 1) := by decide +kernel
theorem dc_jdk_39_method_1_code_0 : decode jdk_39_method_1_code 0 = .ok (.aload_n 0, 1) := by decide +kernel
theorem dc_jdk_39_method_1_code_1 : decode jdk_39_method_1_code 1 = .ok (.invokespecial 1, 3) := by decide +kernel
theorem dc_jdk_39_method_1_code_4 : decode jdk_39_method_1_code 4 = .ok (.aload_n 0, 1) := by decide +kernel
theorem dc_jdk_39_method_1_code_5 : decode jdk_39_method_1_code 5 = .ok (.iconst 0, 1) := by decide +kernel
theorem dc_jdk_39_method_1_code_6 : decode jdk_39_method_1_code 6 = .ok (.putfield 7, 3) := by decide +kernel
theorem dc_jdk_39_method_1_code_9 : decode jdk_39_method_1_code 9 = .ok (.return_, 1) := by decide +kernel
theorem dc_jdk_38_method_2_code_0 : decode jdk_38_method_2_code 0 = .ok (.aload_n 0, 1) := by decide +kernel
theorem dc_jdk_38_method_2_code_1 : decode jdk_38_method_2_code 1 = .ok (.invokespecial 1, 3) := by decide +kernel
theorem dc_jdk_38_method_2_code_4 : decode jdk_38_method_2_code 4 = .ok (.aload_n 0, 1) := by decide +kernel
theorem dc_jdk_38_method_2_code_5 : decode jdk_38_method_2_code 5 = .ok (.getstatic 39, 3) := by decide +kernel
theorem dc_jdk_38_method_2_code_8 : decode jdk_38_method_2_code 8 = .ok (.putfield 9, 3) := by decide +kernel
theorem dc_jdk_38_method_2_code_11 : decode jdk_38_method_2_code 11 = .ok (.return_, 1) := by decide +kernel
theorem dc_jdk_29_method_65_code_0 : decode jdk_29_method_65_code 0 = .ok (.iload_n 0, 1) := by decide +kernel
theorem dc_jdk_29_method_65_code_1 : decode jdk_29_method_65_code 1 = .ok (.iload_n 1, 1) := by decide +kernel
theorem dc_jdk_29_method_65_code_2 : decode jdk_29_method_65_code 2 = .ok (.if_icmp .lt 7, 3) := by decide +kernel
theorem dc_jdk_29_method_65_code_5 : decode jdk_29_method_65_code 5 = .ok (.iload_n 0, 1) := by decide +kernel
theorem dc_jdk_29_method_65_code_6 : decode jdk_29_method_65_code 6 = .ok (.goto 4, 3) := by decide +kernel
theorem dc_jdk_29_method_65_code_10 : decode jdk_29_method_65_code 10 = .ok (.ireturn, 1) := by decide +kernel
theorem dc_jdk_38_method_6_code_0 : decode jdk_38_method_6_code 0 = .ok (.aload_n 0, 1) := by decide +kernel
theorem dc_jdk_38_method_6_code_1 : decode jdk_38_method_6_code 1 = .ok (.getfield 9, 3) := by decide +kernel
theorem dc_jdk_38_method_6_code_4 : decode jdk_38_method_6_code 4 = .ok (.arraylength, 1) := by decide +kernel
theorem dc_jdk_38_method_6_code_5 : decode jdk_38_method_6_code 5 = .ok (.istore_n 2, 1) := by decide +kernel
theorem dc_jdk_38_method_6_code_6 : decode jdk_38_method_6_code 6 = .ok (.iload_n 2, 1) := by decide +kernel
theorem dc_jdk_38_method_6_code_7 : decode jdk_38_method_6_code 7 = .ok (.ifCond .gt 13, 3) := by decide +kernel
theorem dc_jdk_38_method_6_code_10 : decode jdk_38_method_6_code 10 = .ok (.aload_n 0, 1) := by decide +kernel
theorem dc_jdk_38_method_6_code_11 : decode jdk_38_method_6_code 11 = .ok (.getfield 9, 3) := by decide +kernel
theorem dc_jdk_38_method_6_code_14 : decode jdk_38_method_6_code 14 = .ok (.getstatic 39, 3) := by decide +kernel
theorem dc_jdk_38_method_6_code_17 : decode jdk_38_method_6_code 17 = .ok (.if_acmp .eq 28, 3) := by decide +kernel
theorem dc_jdk_38_method_6_code_45 : decode jdk_38_method_6_code 45 = .ok (.aload_n 0, 1) := by decide +kernel
theorem dc_jdk_38_method_6_code_46 : decode jdk_38_method_6_code 46 = .ok (.bipush 10, 2) := by decide +kernel
theorem dc_jdk_38_method_6_code_48 : decode jdk_38_method_6_code 48 = .ok (.iload_n 1, 1) := by decide +kernel
theorem dc_jdk_38_method_6_code_49 : decode jdk_38_method_6_code 49 = .ok (.invokestatic 79, 3) := by decide +kernel
theorem dc_jdk_38_method_6_code_52 : decode jdk_38_method_6_code 52 = .ok (.anewarray 7, 3) := by decide +kernel
theorem dc_jdk_38_method_6_code_55 : decode jdk_38_method_6_code 55 = .ok (.dup_x1, 1) := by decide +kernel
theorem dc_jdk_38_method_6_code_56 : decode jdk_38_method_6_code 56 = .ok (.putfield 9, 3) := by decide +kernel
theorem dc_jdk_38_method_6_code_59 : decode jdk_38_method_6_code 59 = .ok (.areturn, 1) := by decide +kernel
theorem dc_jdk_38_method_7_code_0 : decode jdk_38_method_7_code 0 = .ok (.aload_n 0, 1) := by decide +kernel
theorem dc_jdk_38_method_7_code_1 : decode jdk_38_method_7_code 1 = .ok (.aload_n 0, 1) := by decide +kernel
theorem dc_jdk_38_method_7_code_2 : decode jdk_38_method_7_code 2 = .ok (.getfield 48, 3) := by decide +kernel
theorem dc_jdk_38_method_7_code_5 : decode jdk_38_method_7_code 5 = .ok (.iconst 1, 1) := by decide +kernel
theorem dc_jdk_38_method_7_code_6 : decode jdk_38_method_7_code 6 = .ok (.iadd, 1) := by decide +kernel
theorem dc_jdk_38_method_7_code_7 : decode jdk_38_method_7_code 7 = .ok (.invokevirtual 69, 3) := by decide +kernel
theorem dc_jdk_38_method_7_code_10 : decode jdk_38_method_7_code 10 = .ok (.areturn, 1) := by decide +kernel
theorem dc_jdk_38_method_24_code_0 : decode jdk_38_method_24_code 0 = .ok (.iload_n 3, 1) := by decide +kernel
theorem dc_jdk_38_method_24_code_1 : decode jdk_38_method_24_code 1 = .ok (.aload_n 2, 1) := by decide +kernel
theorem dc_jdk_38_method_24_code_2 : decode jdk_38_method_24_code 2 = .ok (.arraylength, 1) := by decide +kernel
theorem dc_jdk_38_method_24_code_3 : decode jdk_38_method_24_code 3 = .ok (.if_icmp .ne 8, 3) := by decide +kernel
theorem dc_jdk_38_method_24_code_6 : decode jdk_38_method_24_code 6 = .ok (.aload_n 0, 1) := by decide +kernel
theorem dc_jdk_38_method_24_code_7 : decode jdk_38_method_24_code 7 = .ok (.invokevirtual 129, 3) := by decide +kernel
theorem dc_jdk_38_method_24_code_10 : decode jdk_38_method_24_code 10 = .ok (.astore_n 2, 1) := by decide +kernel
theorem dc_jdk_38_method_24_code_11 : decode jdk_38_method_24_code 11 = .ok (.aload_n 2, 1) := by decide +kernel
theorem dc_jdk_38_method_24_code_12 : decode jdk_38_method_24_code 12 = .ok (.iload_n 3, 1) := by decide +kernel
theorem dc_jdk_38_method_24_code_13 : decode jdk_38_method_24_code 13 = .ok (.aload_n 1, 1) := by decide +kernel
theorem dc_jdk_38_method_24_code_14 : decode jdk_38_method_24_code 14 = .ok (.aastore, 1) := by decide +kernel
theorem dc_jdk_38_method_24_code_15 : decode jdk_38_method_24_code 15 = .ok (.aload_n 0, 1) := by decide +kernel
theorem dc_jdk_38_method_24_code_16 : decode jdk_38_method_24_code 16 = .ok (.iload_n 3, 1) := by decide +kernel
theorem dc_jdk_38_method_24_code_17 : decode jdk_38_method_24_code 17 = .ok (.iconst 1, 1) := by decide +kernel
theorem dc_jdk_38_method_24_code_18 : decode jdk_38_method_24_code 18 = .ok (.iadd, 1) := by decide +kernel
theorem dc_jdk_38_method_24_code_19 : decode jdk_38_method_24_code 19 = .ok (.putfield 48, 3) := by decide +kernel
theorem dc_jdk_38_method_24_code_22 : decode jdk_38_method_24_code 22 = .ok (.return_, 1) := by decide +kernel
theorem dc_jdk_38_method_25_code_0 : decode jdk_38_method_25_code 0 = .ok (.aload_n 0, 1) := by decide +kernel
theorem dc_jdk_38_method_25_code_1 : decode jdk_38_method_25_code 1 = .ok (.dup, 1) := by decide +kernel
theorem dc_jdk_38_method_25_code_2 : decode jdk_38_method_25_code 2 = .ok (.getfield 63, 3) := by decide +kernel
theorem dc_jdk_38_method_25_code_5 : decode jdk_38_method_25_code 5 = .ok (.iconst 1, 1) := by decide +kernel
theorem dc_jdk_38_method_25_code_6 : decode jdk_38_method_25_code 6 = .ok (.iadd, 1) := by decide +kernel
theorem dc_jdk_38_method_25_code_7 : decode jdk_38_method_25_code 7 = .ok (.putfield 63, 3) := by decide +kernel
theorem dc_jdk_38_method_25_code_10 : decode jdk_38_method_25_code 10 = .ok (.aload_n 0, 1) := by decide +kernel
theorem dc_jdk_38_method_25_code_11 : decode jdk_38_method_25_code 11 = .ok (.aload_n 1, 1) := by decide +kernel
theorem dc_jdk_38_method_25_code_12 : decode jdk_38_method_25_code 12 = .ok (.aload_n 0, 1) := by decide +kernel
theorem dc_jdk_38_method_25_code_13 : decode jdk_38_method_25_code 13 = .ok (.getfield 9, 3) := by decide +kernel
theorem dc_jdk_38_method_25_code_16 : decode jdk_38_method_25_code 16 = .ok (.aload_n 0, 1) := by decide +kernel
theorem dc_jdk_38_method_25_code_17 : decode jdk_38_method_25_code 17 = .ok (.getfield 48, 3) := by decide +kernel
theorem dc_jdk_38_method_25_code_20 : decode jdk_38_method_25_code 20 = .ok (.invokevirtual 131, 3) := by decide +kernel
theorem dc_jdk_38_method_25_code_23 : decode jdk_38_method_25_code 23 = .ok (.iconst 1, 1) := by decide +kernel
theorem dc_jdk_38_method_25_code_24 : decode jdk_38_method_25_code 24 = .ok (.ireturn, 1) := by decide +kernel
theorem dc_jdk_41_method_11_code_0 : decode jdk_41_method_11_code 0 = .ok (.iload_n 0, 1) := by decide +kernel
theorem dc_jdk_41_method_11_code_1 : decode jdk_41_method_11_code 1 = .ok (.ifCond .lt 8, 3) := by decide +kernel
theorem dc_jdk_41_method_11_code_4 : decode jdk_41_method_11_code 4 = .ok (.iload_n 0, 1) := by decide +kernel
theorem dc_jdk_41_method_11_code_5 : decode jdk_41_method_11_code 5 = .ok (.iload_n 1, 1) := by decide +kernel
theorem dc_jdk_41_method_11_code_6 : decode jdk_41_method_11_code 6 = .ok (.if_icmp .lt 10, 3) := by decide +kernel
theorem dc_jdk_41_method_11_code_16 : decode jdk_41_method_11_code 16 = .ok (.iload_n 0, 1) := by decide +kernel
theorem dc_jdk_41_method_11_code_17 : decode jdk_41_method_11_code 17 = .ok (.ireturn, 1) := by decide +kernel
theorem dc_jdk_31_method_17_code_0 : decode jdk_31_method_17_code 0 = .ok (.iload_n 0, 1) := by decide +kernel
theorem dc_jdk_31_method_17_code_1 : decode jdk_31_method_17_code 1 = .ok (.iload_n 1, 1) := by decide +kernel
theorem dc_jdk_31_method_17_code_2 : decode jdk_31_method_17_code 2 = .ok (.aconst_null, 1) := by decide +kernel
theorem dc_jdk_31_method_17_code_3 : decode jdk_31_method_17_code 3 = .ok (.invokestatic 105, 3) := by decide +kernel
theorem dc_jdk_31_method_17_code_6 : decode jdk_31_method_17_code 6 = .ok (.ireturn, 1) := by decide +kernel
theorem dc_jdk_38_method_18_code_0 : decode jdk_38_method_18_code 0 = .ok (.aload_n 0, 1) := by decide +kernel
theorem dc_jdk_38_method_18_code_1 : decode jdk_38_method_18_code 1 = .ok (.getfield 9, 3) := by decide +kernel
theorem dc_jdk_38_method_18_code_4 : decode jdk_38_method_18_code 4 = .ok (.iload_n 1, 1) := by decide +kernel
theorem dc_jdk_38_method_18_code_5 : decode jdk_38_method_18_code 5 = .ok (.aaload, 1) := by decide +kernel
theorem dc_jdk_38_method_18_code_6 : decode jdk_38_method_18_code 6 = .ok (.areturn, 1) := by decide +kernel
theorem dc_jdk_38_method_20_code_0 : decode jdk_38_method_20_code 0 = .ok (.iload_n 1, 1) := by decide +kernel
theorem dc_jdk_38_method_20_code_1 : decode jdk_38_method_20_code 1 = .ok (.aload_n 0, 1) := by decide +kernel
theorem dc_jdk_38_method_20_code_2 : decode jdk_38_method_20_code 2 = .ok (.getfield 48, 3) := by decide +kernel
theorem dc_jdk_38_method_20_code_5 : decode jdk_38_method_20_code 5 = .ok (.invokestatic 118, 3) := by decide +kernel
theorem dc_jdk_38_method_20_code_8 : decode jdk_38_method_20_code 8 = .ok (.pop, 1) := by decide +kernel
theorem dc_jdk_38_method_20_code_9 : decode jdk_38_method_20_code 9 = .ok (.aload_n 0, 1) := by decide +kernel
theorem dc_jdk_38_method_20_code_10 : decode jdk_38_method_20_code 10 = .ok (.iload_n 1, 1) := by decide +kernel
theorem dc_jdk_38_method_20_code_11 : decode jdk_38_method_20_code 11 = .ok (.invokevirtual 123, 3) := by decide +kernel
theorem dc_jdk_38_method_20_code_14 : decode jdk_38_method_20_code 14 = .ok (.areturn, 1) := by decide +kernel
theorem dc_method_2_code_0 : decode method_2_code 0 = .ok (.iconst 2, 1) := by decide +kernel
theorem dc_method_2_code_1 : decode method_2_code 1 = .ok (.newarray .char, 2) := by decide +kernel
theorem dc_method_2_code_3 : decode method_2_code 3 = .ok (.astore_n 1, 1) := by decide +kernel
theorem dc_method_2_code_4 : decode method_2_code 4 = .ok (.aload_n 1, 1) := by decide +kernel
theorem dc_method_2_code_5 : decode method_2_code 5 = .ok (.iconst 0, 1) := by decide +kernel
theorem dc_method_2_code_6 : decode method_2_code 6 = .ok (.iload_n 0, 1) := by decide +kernel
theorem dc_method_2_code_7 : decode method_2_code 7 = .ok (.sipush 255, 3) := by decide +kernel
theorem dc_method_2_code_10 : decode method_2_code 10 = .ok (.iand, 1) := by decide +kernel
theorem dc_method_2_code_11 : decode method_2_code 11 = .ok (.i2c, 1) := by decide +kernel
theorem dc_method_2_code_12 : decode method_2_code 12 = .ok (.castore, 1) := by decide +kernel
theorem dc_method_2_code_13 : decode method_2_code 13 = .ok (.aload_n 1, 1) := by decide +kernel
theorem dc_method_2_code_14 : decode method_2_code 14 = .ok (.iconst 1, 1) := by decide +kernel
theorem dc_method_2_code_15 : decode method_2_code 15 = .ok (.iload_n 0, 1) := by decide +kernel
theorem dc_method_2_code_16 : decode method_2_code 16 = .ok (.bipush 8, 2) := by decide +kernel
theorem dc_method_2_code_18 : decode method_2_code 18 = .ok (.iushr, 1) := by decide +kernel
theorem dc_method_2_code_19 : decode method_2_code 19 = .ok (.sipush 255, 3) := by decide +kernel
theorem dc_method_2_code_22 : decode method_2_code 22 = .ok (.iand, 1) := by decide +kernel
theorem dc_method_2_code_23 : decode method_2_code 23 = .ok (.i2c, 1) := by decide +kernel
theorem dc_method_2_code_24 : decode method_2_code 24 = .ok (.castore, 1) := by decide +kernel
theorem dc_method_2_code_25 : decode method_2_code 25 = .ok (.new 7, 3) := by decide +kernel
theorem dc_method_2_code_28 : decode method_2_code 28 = .ok (.dup, 1) := by decide +kernel
theorem dc_method_2_code_29 : decode method_2_code 29 = .ok (.aload_n 1, 1) := by decide +kernel
theorem dc_method_2_code_30 : decode method_2_code 30 = .ok (.invokespecial 9, 3) := by decide +kernel
theorem dc_method_2_code_33 : decode method_2_code 33 = .ok (.areturn, 1) := by decide +kernel
theorem dc_jdk_30_method_1_code_0 : decode jdk_30_method_1_code 0 = .ok (.aload_n 0, 1) := by decide +kernel
theorem dc_jdk_30_method_1_code_1 : decode jdk_30_method_1_code 1 = .ok (.invokespecial 1, 3) := by decide +kernel
theorem dc_jdk_30_method_1_code_4 : decode jdk_30_method_1_code 4 = .ok (.return_, 1) := by decide +kernel
theorem dc_prog_80_method_1_code_0 : decode prog_80_method_1_code 0 = .ok (.aload_n 0, 1) := by decide +kernel
theorem dc_prog_80_method_1_code_1 : decode prog_80_method_1_code 1 = .ok (.invokespecial 1, 3) := by decide +kernel
theorem dc_prog_80_method_1_code_4 : decode prog_80_method_1_code 4 = .ok (.aload_n 0, 1) := by decide +kernel
theorem dc_prog_80_method_1_code_5 : decode prog_80_method_1_code 5 = .ok (.iload_n 1, 1) := by decide +kernel
theorem dc_prog_80_method_1_code_6 : decode prog_80_method_1_code 6 = .ok (.putfield 7, 3) := by decide +kernel
theorem dc_prog_80_method_1_code_9 : decode prog_80_method_1_code 9 = .ok (.aload_n 0, 1) := by decide +kernel
theorem dc_prog_80_method_1_code_10 : decode prog_80_method_1_code 10 = .ok (.aload_n 2, 1) := by decide +kernel
theorem dc_prog_80_method_1_code_11 : decode prog_80_method_1_code 11 = .ok (.putfield 13, 3) := by decide +kernel
theorem dc_prog_80_method_1_code_14 : decode prog_80_method_1_code 14 = .ok (.return_, 1) := by decide +kernel
theorem dc_prog_80_method_2_code_0 : decode prog_80_method_2_code 0 = .ok (.aload_n 0, 1) := by decide +kernel
theorem dc_prog_80_method_2_code_1 : decode prog_80_method_2_code 1 = .ok (.getfield 13, 3) := by decide +kernel
theorem dc_prog_80_method_2_code_4 : decode prog_80_method_2_code 4 = .ok (.iload_n 1, 1) := by decide +kernel
theorem dc_prog_80_method_2_code_5 : decode prog_80_method_2_code 5 = .ok (.invokeinterface 17 2, 5) := by decide +kernel
theorem dc_prog_80_method_2_code_10 : decode prog_80_method_2_code 10 = .ok (.checkcast 23, 3) := by decide +kernel
theorem dc_prog_80_method_2_code_13 : decode prog_80_method_2_code 13 = .ok (.areturn, 1) := by decide +kernel
theorem pd_0 : parseMethodDescriptor "([CI[BII)I" = some ⟨[(.array .char), .int, (.array .byte), .int, .int], some .int⟩ := by decide +kernel
theorem pd_1 : parseMethodDescriptor "([CII)[B" = some ⟨[(.array .char), .int, .int], some (.array .byte)⟩ := by decide +kernel
theorem pd_2 : parseMethodDescriptor "([BI)B" = some ⟨[(.array .byte), .int], some .byte⟩ := by decide +kernel
theorem pd_3 : parseMethodDescriptor "([CIILjava/lang/Void;)V" = some ⟨[(.array .char), .int, .int, (.object "java/lang/Void")], none⟩ := by decide +kernel
theorem pd_4 : parseMethodDescriptor "()V" = some ⟨[], none⟩ := by decide +kernel
theorem pd_5 : parseMethodDescriptor "(II)I" = some ⟨[.int, .int], some .int⟩ := by decide +kernel
theorem pd_6 : parseMethodDescriptor "(I)[Ljava/lang/Object;" = some ⟨[.int], some (.array (.object "java/lang/Object"))⟩ := by decide +kernel
theorem pd_7 : parseMethodDescriptor "()[Ljava/lang/Object;" = some ⟨[], some (.array (.object "java/lang/Object"))⟩ := by decide +kernel
theorem pd_8 : parseMethodDescriptor "(Ljava/lang/Object;[Ljava/lang/Object;I)V" = some ⟨[(.object "java/lang/Object"), (.array (.object "java/lang/Object")), .int], none⟩ := by decide +kernel
theorem pd_9 : parseMethodDescriptor "(IILjava/util/function/BiFunction;)I" = some ⟨[.int, .int, (.object "java/util/function/BiFunction")], some .int⟩ := by decide +kernel
theorem pd_10 : parseMethodDescriptor "(I)Ljava/lang/Object;" = some ⟨[.int], some (.object "java/lang/Object")⟩ := by decide +kernel
theorem pd_11 : parseMethodDescriptor "([C)V" = some ⟨[(.array .char)], none⟩ := by decide +kernel
theorem pd_12 : parseMethodDescriptor "(I)Ljava/lang/String;" = some ⟨[.int], some (.object "java/lang/String")⟩ := by decide +kernel
theorem pd_13 : parseMethodDescriptor "(Ljava/lang/Object;)Z" = some ⟨[(.object "java/lang/Object")], some .boolean⟩ := by decide +kernel
theorem pd_14 : parseMethodDescriptor "(ILjava/util/List;)V" = some ⟨[.int, (.object "java/util/List")], none⟩ := by decide +kernel

theorem own_255 (x : Int32) : ¬ (255 : Int32) < (x &&& 255) := by
  have h := c_and x 255 (by decide)
  have h7 : (255 : Int32).toInt = 255 := by decide
  rw [Int32.lt_iff_toInt_lt, h7]
  omega
theorem own_c255 (x : Int32) : ¬ (255 : Int32) < nar .char ((x &&& 255).toUInt32.toUInt16.toUInt32.toInt32) := by
  simp only [nar, i2c_mask]
  exact own_255 x
theorem own_mod (x d : Int32) (D : Int) (hd : d.toInt = D) (hD : 0 < D) : 0 ≤ ((x &&& 2147483647) % d).toInt ∧ ((x &&& 2147483647) % d).toInt < D := by
  have h := c_and x 2147483647 (by decide)
  have q := (c_irem (x &&& 2147483647) d D hd).1 h.1
  rw [q]
  exact ⟨Int.emod_nonneg _ (by omega), Int.emod_lt_of_pos _ hD⟩
theorem own_lt1 {z : Int32} (h : 0 ≤ z.toInt ∧ z.toInt < 1) : z = 0 := Int32.toInt_inj.mp (by rw [show (0 : Int32).toInt = 0 by decide]; omega)
theorem own_lt2 {z : Int32} (h : 0 ≤ z.toInt ∧ z.toInt < 2) : z = 0 ∨ z = 1 := by
  have e : z.toInt = 0 ∨ z.toInt = 1 := by omega
  rcases e with e | e
  · exact Or.inl (Int32.toInt_inj.mp e)
  · exact Or.inr (Int32.toInt_inj.mp e)
theorem own_lt3 {z : Int32} (h : 0 ≤ z.toInt ∧ z.toInt < 3) : z = 0 ∨ z = 1 ∨ z = 2 := by
  have e : z.toInt = 0 ∨ z.toInt = 1 ∨ z.toInt = 2 := by omega
  rcases e with e | e | e
  · exact Or.inl (Int32.toInt_inj.mp e)
  · exact Or.inr (Or.inl (Int32.toInt_inj.mp e))
  · exact Or.inr (Or.inr (Int32.toInt_inj.mp e))

set_option maxRecDepth 65536 in
set_option maxHeartbeats 40000000 in
theorem st_cmp5 {l : Launch} {Z : State} {a0 : Array Value} (hw : ∀ d ∈ tables_1, d.before a0 Z = true) (a b : Addr) (ka kb : ClassId) (cs : List Int32) (d : Value) (h0 : Heap) (A1 : Arv Z h0 a ka .char (Int32.ofNat cs.length) (vC cs) d) (B1 : Arv Z h0 b kb .byte (Int32.ofNat cs.length) [] (.int 0)) (hab : a ≠ b) (gb : Z.heap.size ≤ b) (hn : cs.length ≤ 4000) :
    Met l Z (⟨"java/lang/StringUTF16", "compress", "([CI[BII)I"⟩ : MethodName) jdk_52_method_21_code 7 (some .int) false [] ({ frames := 0, cells := 0, slots := 0, locals := 0 } : Room) #[(.ref a), (.int (0 : Int32)), (.ref b), (.int (0 : Int32)), (.int (Int32.ofNat cs.length))] h0 (false, [], []) (fun v h J => v = some (.int (Int32.ofNat (lat cs).length)) ∧ Keep h0 h [b] ∧ Arv Z h b kb .byte (Int32.ofNat cs.length) (vL (lat cs)) (.int 0)) := by
  refine Met.of_goes (Ls := #[.val (.ref a), .val (.int (0 : Int32)), .val (.ref b), .val (.int (0 : Int32)), .val (.int (Int32.ofNat cs.length)), .unset, .unset]) (by first | exact plainFor_of_name (by first | (simp [plainName, overriddenIn]; done) | decide +kernel) | decide +kernel) (fun m => by first | (simp [entryFrame, mkF, argsToLocals, Value.category]; done) | rfl) rfl (fun G hGl => ?_)
  subst hGl
  refine Wlk.iconst (pc' := 1) (v := (0 : Int32)) dc_jdk_52_method_21_code_0 rfl rfl ?_
  refine Wlk.istore (pc' := 3) (Ls' := #[.val (.ref a), .val (.int (0 : Int32)), .val (.ref b), .val (.int (0 : Int32)), .val (.int (Int32.ofNat cs.length)), .val (.int (0 : Int32)), .unset]) dc_jdk_52_method_21_code_1 rfl rfl rfl ?_
  have loop : ∀ (rest pre : List Int32) (h : Heap) (o6 : Slot), One o6 → cs = pre ++ rest → (∀ c ∈ pre, ¬ (255 : Int32) < c) → Keep h0 h [b] → Arv Z h b kb .byte (Int32.ofNat cs.length) (vL pre) (.int 0) → Wlk G ({ frames := 0, cells := 0, slots := 0, locals := 0 } : Room) Z (⟨"java/lang/StringUTF16", "compress", "([CI[BII)I"⟩ : MethodName) jdk_52_method_21_code (some .int) false (false, [], []) (fun v h J => v = some (.int (Int32.ofNat (lat cs).length)) ∧ Keep h0 h [b] ∧ Arv Z h b kb .byte (Int32.ofNat cs.length) (vL (lat cs)) (.int 0)) h 0 0 3 #[.val (.ref a), .val (.int (Int32.ofNat pre.length)), .val (.ref b), .val (.int (Int32.ofNat pre.length)), .val (.int (Int32.ofNat cs.length)), .val (.int (Int32.ofNat pre.length)), o6] [] := by
    intro rest
    induction rest with
    | nil =>
      intro pre h o6 ho hcs hp K B
      rw [List.append_nil] at hcs
      subst hcs
      refine Wlk.iload (pc' := 5) (v := (Int32.ofNat cs.length)) dc_jdk_52_method_21_code_3 rfl rfl ?_
      refine Wlk.iload (pc' := 7) (v := (Int32.ofNat cs.length)) dc_jdk_52_method_21_code_5 rfl rfl ?_
      refine Wlk.icT (pc' := 44) dc_jdk_52_method_21_code_7 (by decide) (by decide) (show ¬ ((Int32.ofNat cs.length) < (Int32.ofNat cs.length)) from (fun q => absurd ((i32_lt (by omega) (by omega)).mp q) (Nat.lt_irrefl _))) ?_
      refine Wlk.iload (pc' := 46) (v := (Int32.ofNat cs.length)) dc_jdk_52_method_21_code_44 rfl rfl ?_
      refine Wlk.ireturnI dc_jdk_52_method_21_code_46 rfl (by decide) (by decide) ?_
      exact ⟨by rw [lat_all hp], K, by rw [lat_all hp]; exact B⟩
    | cons c rest ih =>
      intro pre h o6 ho hcs hp K B
      have hl : cs.length = pre.length + (rest.length + 1) := by rw [hcs]; simp
      have A := A1.keep K (ninS hab nin0)
      have B2 := B.pad (pad_rep _ _ 1)
      refine Wlk.iload (pc' := 5) (v := (Int32.ofNat pre.length)) dc_jdk_52_method_21_code_3 rfl rfl ?_
      refine Wlk.iload (pc' := 7) (v := (Int32.ofNat cs.length)) dc_jdk_52_method_21_code_5 rfl rfl ?_
      refine Wlk.icF (pc' := 10) dc_jdk_52_method_21_code_7 (show (Int32.ofNat pre.length) < (Int32.ofNat cs.length) from ((i32_lt (by omega) (by omega)).mpr (by omega))) rfl ?_
      refine Wlk.aloadN (pc' := 11) (v := (.ref a)) dc_jdk_52_method_21_code_10 rfl rfl rfl ?_
      refine Wlk.iloadN (pc' := 12) (v := (Int32.ofNat pre.length)) dc_jdk_52_method_21_code_11 rfl rfl ?_
      refine Wlk.caload (pc' := 13) (v := (.int c)) dc_jdk_52_method_21_code_12 A ⟨i32_nn (by omega), (i32_lt (by omega) (by omega)).mpr (by omega)⟩ (by rw [i32_cl (by omega), hcs]; simp [vC]) rfl ?_
      refine Wlk.istore (pc' := 15) (Ls' := #[.val (.ref a), .val (.int (Int32.ofNat pre.length)), .val (.ref b), .val (.int (Int32.ofNat pre.length)), .val (.int (Int32.ofNat cs.length)), .val (.int (Int32.ofNat pre.length)), .val (.int c)]) dc_jdk_52_method_21_code_13 (XS.store1 (o := o6) rfl ho rfl) rfl rfl ?_
      refine Wlk.iload (pc' := 17) (v := c) dc_jdk_52_method_21_code_15 rfl rfl ?_
      refine Wlk.sipush (pc' := 20) (v := (255 : Int32)) dc_jdk_52_method_21_code_17 (by decide) rfl ?_
      refine Wlk.ic_ (pcT := 26) (pcF := 23) dc_jdk_52_method_21_code_20 (by decide) (by decide) rfl (fun (hc1 : ¬ ((255 : Int32) < c)) => ?_) (fun (hc1 : (255 : Int32) < c) => ?_)
      · skip
        refine Wlk.aloadN (pc' := 27) (v := (.ref b)) dc_jdk_52_method_21_code_26 rfl rfl rfl ?_
        refine Wlk.iloadN (pc' := 28) (v := (Int32.ofNat pre.length)) dc_jdk_52_method_21_code_27 rfl rfl ?_
        refine Wlk.iload (pc' := 30) (v := c) dc_jdk_52_method_21_code_28 rfl rfl ?_
        refine Wlk.i2b (pc' := 31) dc_jdk_52_method_21_code_30 rfl ?_
        refine Wlk.bastore (pc' := 32) (i := pre.length) dc_jdk_52_method_21_code_31 B2 ⟨i32_nn (by omega), (i32_lt (by omega) (by omega)).mpr (by omega)⟩ (i32_cl (by omega)) (by simp [vL]) gb rfl (fun h2 W3 A4 => ?_)
        refine Wlk.iinc (pc' := 35) (v := (1 : Int32)) (x := (Int32.ofNat pre.length)) (Ls' := #[.val (.ref a), .val (.int ((Int32.ofNat pre.length) + (1 : Int32))), .val (.ref b), .val (.int (Int32.ofNat pre.length)), .val (.int (Int32.ofNat cs.length)), .val (.int (Int32.ofNat pre.length)), .val (.int c)]) dc_jdk_52_method_21_code_32 (by decide) rfl rfl rfl rfl ?_
        refine Wlk.iinc (pc' := 38) (v := (1 : Int32)) (x := (Int32.ofNat pre.length)) (Ls' := #[.val (.ref a), .val (.int ((Int32.ofNat pre.length) + (1 : Int32))), .val (.ref b), .val (.int ((Int32.ofNat pre.length) + (1 : Int32))), .val (.int (Int32.ofNat cs.length)), .val (.int (Int32.ofNat pre.length)), .val (.int c)]) dc_jdk_52_method_21_code_35 (by decide) rfl rfl rfl rfl ?_
        refine Wlk.iinc (pc' := 41) (v := (1 : Int32)) (x := (Int32.ofNat pre.length)) (Ls' := #[.val (.ref a), .val (.int ((Int32.ofNat pre.length) + (1 : Int32))), .val (.ref b), .val (.int ((Int32.ofNat pre.length) + (1 : Int32))), .val (.int (Int32.ofNat cs.length)), .val (.int ((Int32.ofNat pre.length) + (1 : Int32))), .val (.int c)]) dc_jdk_52_method_21_code_38 (by decide) rfl rfl rfl rfl ?_
        refine Wlk.goto (pc' := 3) dc_jdk_52_method_21_code_41 (by decide) (by decide) ?_
        have e1 : Int32.ofNat pre.length + 1 = Int32.ofNat (pre ++ [c]).length := by rw [i32_succ]; simp
        rw [e1]
        refine ih (pre ++ [c]) _ _ (One.val rfl) (by rw [hcs]; simp) (fun x hx => ?_) (K.wr W3 (Or.inl (List.mem_of_getElem? (i := 0) rfl))) (set_vL pre c ▸ A4)
        rcases List.mem_append.mp hx with hx | hx
        · exact hp x hx
        · rw [List.mem_singleton.mp hx]; exact hc1
      · skip
        refine Wlk.iload (pc' := 25) (v := (Int32.ofNat pre.length)) dc_jdk_52_method_21_code_23 rfl rfl ?_
        refine Wlk.ireturnI dc_jdk_52_method_21_code_25 rfl (by decide) (by decide) ?_
        have el : lat cs = pre := by rw [hcs, lat_app hp, lat_stop hc1, List.append_nil]
        exact ⟨by rw [el], K, by rw [el]; exact B⟩
  exact loop cs [] h0 .unset One.u rfl (fun _ q => nomatch q) (Keep.refl _ _) B1

set_option maxRecDepth 65536 in
set_option maxHeartbeats 40000000 in
theorem st_cmp3 {l : Launch} {Z : State} {a0 : Array Value} (hw : ∀ d ∈ tables_1, d.before a0 Z = true) (a : Addr) (ka : ClassId) (cs : List Int32) (d : Value) (h0 : Heap) (A1 : Arv Z h0 a ka .char (Int32.ofNat cs.length) (vC cs) d) (hn : cs.length ≤ 2) (hL : ∀ c ∈ cs, ¬ (255 : Int32) < c) :
    Met l Z (⟨"java/lang/StringUTF16", "compress", "([CII)[B"⟩ : MethodName) jdk_52_method_16_code 6 (some (.array .byte)) false [] ({ frames := 1, cells := 1, slots := 2, locals := 18 } : Room) #[(.ref a), (.int (0 : Int32)), (.int (Int32.ofNat cs.length))] h0 (false, [], []) (fun v h J => ∃ (t : Addr) (kb : ClassId), v = some (.ref t) ∧ h0.size ≤ t ∧ Z.heap.size ≤ t ∧ Keep h0 h [] ∧ Arv Z h t kb .byte (Int32.ofNat cs.length) (vL cs) (.int 0)) := by
  refine Met.of_goes (Ls := #[.val (.ref a), .val (.int (0 : Int32)), .val (.int (Int32.ofNat cs.length)), .unset, .unset, .unset]) (by first | exact plainFor_of_name (by first | (simp [plainName, overriddenIn]; done) | decide +kernel) | decide +kernel) (fun m => by first | (simp [entryFrame, mkF, argsToLocals, Value.category]; done) | rfl) rfl (fun G hGl => ?_)
  subst hGl
  refine Wlk.iloadN (pc' := 1) (v := (Int32.ofNat cs.length)) dc_jdk_52_method_16_code_0 rfl rfl ?_
  refine Wlk.newP (pc' := 3) (ty := .byte) (cap := 2) dc_jdk_52_method_16_code_1 rfl (hw _ (List.mem_of_getElem? (i := 24) rfl)) (i32_nn (by omega)) (by rw [i32_cl (by omega)]; exact hn) (by decide) (by decide) (by decide) rfl (fun b5 h6 kc7 le8 g9 E10 A11 => ?_)
  refine Wlk.astoreN (pc' := 4) (Ls' := #[.val (.ref a), .val (.int (0 : Int32)), .val (.int (Int32.ofNat cs.length)), .val (.ref b5), .unset, .unset]) dc_jdk_52_method_16_code_3 rfl rfl rfl rfl ?_
  refine Wlk.aloadN (pc' := 5) (v := (.ref a)) dc_jdk_52_method_16_code_4 rfl rfl rfl ?_
  refine Wlk.iloadN (pc' := 6) (v := (0 : Int32)) dc_jdk_52_method_16_code_5 rfl rfl ?_
  refine Wlk.aloadN (pc' := 7) (v := (.ref b5)) dc_jdk_52_method_16_code_6 rfl rfl rfl ?_
  refine Wlk.iconst (pc' := 8) (v := (0 : Int32)) dc_jdk_52_method_16_code_7 rfl rfl ?_
  refine Wlk.iloadN (pc' := 9) (v := (Int32.ofNat cs.length)) dc_jdk_52_method_16_code_8 rfl rfl ?_
  have c12 := (A1.ext E10)
  refine Wlk.callS (pc' := 12) (z := (⟨"java/lang/StringUTF16", "compress", "([CI[BII)I"⟩ : MethodName)) (argsL := [(.ref a), (.int (0 : Int32)), (.ref b5), (.int (0 : Int32)), (.int (Int32.ofNat cs.length))]) (st := []) (W := 0) dc_jdk_52_method_16_code_9 (hw _ (List.mem_of_getElem? (i := 25) rfl)) (hw _ (List.mem_of_getElem? (i := 26) rfl)) (hw _ (List.mem_of_getElem? (i := 22) rfl)) (hw _ (List.mem_of_getElem? (i := 27) rfl)) (by decide) pd_0 rfl (st_cmp5 hw a b5 ka kc7 cs d h6 c12 A11 (Nat.ne_of_lt (Nat.lt_of_lt_of_le A1.lt (Nat.le_trans (Nat.le_refl _) le8))) g9 (by omega)) (by decide) rfl (by decide) (by decide) (by decide) rfl rfl (fun v13 h14 J15 q16 => ?_)
  rw [lat_all hL] at q16
  obtain ⟨rfl, K17, A18⟩ := q16
  show Wlk _ _ _ _ _ _ _ _ _ h14 1 2 12 #[.val (.ref a), .val (.int (0 : Int32)), .val (.int (Int32.ofNat cs.length)), .val (.ref b5), .unset, .unset] [(.int (Int32.ofNat cs.length))]
  refine Wlk.istore (pc' := 14) (Ls' := #[.val (.ref a), .val (.int (0 : Int32)), .val (.int (Int32.ofNat cs.length)), .val (.ref b5), .val (.int (Int32.ofNat cs.length)), .unset]) dc_jdk_52_method_16_code_12 rfl rfl rfl ?_
  refine Wlk.iload (pc' := 16) (v := (Int32.ofNat cs.length)) dc_jdk_52_method_16_code_14 rfl rfl ?_
  refine Wlk.iloadN (pc' := 17) (v := (Int32.ofNat cs.length)) dc_jdk_52_method_16_code_16 rfl rfl ?_
  refine Wlk.icT (pc' := 57) dc_jdk_52_method_16_code_17 (by decide) (by decide) (show (Int32.ofNat cs.length) = (Int32.ofNat cs.length) from rfl) ?_
  refine Wlk.aloadN (pc' := 58) (v := (.ref b5)) dc_jdk_52_method_16_code_57 rfl rfl rfl ?_
  refine Wlk.areturn (t := (.array .byte)) dc_jdk_52_method_16_code_58 rfl rfl rfl rfl (by decide) (by decide) ?_
  exact ⟨b5, kc7, rfl, (Nat.le_trans (Nat.le_refl _) le8), g9, (((Keep.refl h0 []).ext E10).trans K17 (allS (Or.inr (Nat.le_trans (Nat.le_refl _) le8)) all0)), A18⟩

set_option maxRecDepth 65536 in
set_option maxHeartbeats 40000000 in
theorem st_cod {l : Launch} {Z : State} {a0 : Array Value} (hw : ∀ d ∈ tables_1, d.before a0 Z = true) (t : Addr) (kb : ClassId) (N : Int32) (vs : List Value) (d : Value) (h0 : Heap) (B1 : Arv Z h0 t kb .byte N vs d) :
    Met l Z (⟨"java/lang/StringUTF16", "coderFromArrayLen", "([BI)B"⟩ : MethodName) jdk_52_method_15_code 2 (some .byte) false [] ({ frames := 0, cells := 0, slots := 0, locals := 0 } : Room) #[(.ref t), (.int N)] h0 (false, [], []) (fun v h J => v = some (.int 0) ∧ h0 = h) := by
  refine Met.of_goes (Ls := #[.val (.ref t), .val (.int N)]) (by first | exact plainFor_of_name (by first | (simp [plainName, overriddenIn]; done) | decide +kernel) | decide +kernel) (fun m => by first | (simp [entryFrame, mkF, argsToLocals, Value.category]; done) | rfl) rfl (fun G hGl => ?_)
  subst hGl
  refine Wlk.iloadN (pc' := 1) (v := N) dc_jdk_52_method_15_code_0 rfl rfl ?_
  refine Wlk.aloadN (pc' := 2) (v := (.ref t)) dc_jdk_52_method_15_code_1 rfl rfl rfl ?_
  refine Wlk.arraylength (pc' := 3) dc_jdk_52_method_15_code_2 B1 rfl ?_
  refine Wlk.isub (pc' := 4) dc_jdk_52_method_15_code_3 rfl ?_
  refine Wlk.bipush (pc' := 6) (v := (31 : Int32)) dc_jdk_52_method_15_code_4 (by decide) rfl ?_
  refine Wlk.iushr (pc' := 7) dc_jdk_52_method_15_code_6 rfl ?_
  refine Wlk.i2b (pc' := 8) dc_jdk_52_method_15_code_7 rfl ?_
  refine Wlk.ireturnN (t := .byte) dc_jdk_52_method_15_code_8 rfl (by simp) (by decide) (by decide) ?_
  exact ⟨by rw [Int32.sub_self]; rfl, rfl⟩

set_option maxRecDepth 65536 in
set_option maxHeartbeats 40000000 in
theorem st_ini4 {l : Launch} {Z : State} {a0 : Array Value} (hw : ∀ d ∈ tables_1, d.before a0 Z = true) (s a : Addr) (u1 u2 : Value) (ka : ClassId) (cs : List Int32) (d : Value) (h0 : Heap) (E1 : Exa Z h0 s "java/lang/String") (F1 : Fld Z h0 s "java/lang/String" "value" "[B" u1) (F2 : Fld Z h0 s "java/lang/String" "coder" "B" u2) (gs : Z.heap.size ≤ s) (A1 : Arv Z h0 a ka .char (Int32.ofNat cs.length) (vC cs) d) (hn : cs.length ≤ 2) (hp : 0 < cs.length) (hL : ∀ c ∈ cs, ¬ (255 : Int32) < c) (zc : Int32) (O2 : Sta Z Z.heap "java/lang/String" "COMPACT_STRINGS" "Z" (.int zc)) (P3 : ¬ zc = 0) :
    Met l Z (⟨"java/lang/String", "<init>", "([CIILjava/lang/Void;)V"⟩ : MethodName) jdk_42_method_149_code 6 none false [] ({ frames := 2, cells := 1, slots := 2, locals := 35 } : Room) #[(.ref s), (.ref a), (.int (0 : Int32)), (.int (Int32.ofNat cs.length)), .null] h0 (false, [], []) (fun v h J => v = none ∧ Keep h0 h [s] ∧ ∃ t, h0.size ≤ t ∧ Z.heap.size ≤ t ∧ StrL Z h s t cs) := by
  refine Met.of_goes (Ls := #[.val (.ref s), .val (.ref a), .val (.int (0 : Int32)), .val (.int (Int32.ofNat cs.length)), .val .null, .unset]) (by first | exact plainFor_of_name (by first | (simp [plainName, overriddenIn]; done) | decide +kernel) | decide +kernel) (fun m => by first | (simp [entryFrame, mkF, argsToLocals, Value.category]; done) | rfl) rfl (fun G hGl => ?_)
  subst hGl
  refine Wlk.aloadN (pc' := 1) (v := (.ref s)) dc_jdk_42_method_149_code_0 rfl rfl rfl ?_
  refine Wlk.initO (pc' := 4) (W := 0) dc_jdk_42_method_149_code_1 (hw _ (List.mem_of_getElem? (i := 16) rfl)) (hw _ (List.mem_of_getElem? (i := 17) rfl)) (hw _ (List.mem_of_getElem? (i := 18) rfl)) (by decide) rfl (by decide) rfl ?_
  refine Wlk.iloadN (pc' := 5) (v := (Int32.ofNat cs.length)) dc_jdk_42_method_149_code_4 rfl rfl ?_
  refine Wlk.ifT (pc' := 27) dc_jdk_42_method_149_code_5 (by decide) (by decide) (show ¬ ((Int32.ofNat cs.length) = (0 : Int32)) from (fun q => absurd ((i32_eq (j := 0) (by omega) (by omega)).mp q) (by omega))) ?_
  refine Wlk.getS (pc' := 30) (v := (.int zc)) dc_jdk_42_method_149_code_27 (hw _ (List.mem_of_getElem? (i := 19) rfl)) Via.refl O2 rfl ?_
  refine Wlk.ifF (pc' := 33) dc_jdk_42_method_149_code_30 (show ¬ (zc = (0 : Int32)) from P3) rfl ?_
  refine Wlk.aloadN (pc' := 34) (v := (.ref a)) dc_jdk_42_method_149_code_33 rfl rfl rfl ?_
  refine Wlk.iloadN (pc' := 35) (v := (0 : Int32)) dc_jdk_42_method_149_code_34 rfl rfl ?_
  refine Wlk.iloadN (pc' := 36) (v := (Int32.ofNat cs.length)) dc_jdk_42_method_149_code_35 rfl rfl ?_
  refine Wlk.callS (pc' := 39) (z := (⟨"java/lang/StringUTF16", "compress", "([CII)[B"⟩ : MethodName)) (argsL := [(.ref a), (.int (0 : Int32)), (.int (Int32.ofNat cs.length))]) (st := []) (W := 0) dc_jdk_42_method_149_code_36 (hw _ (List.mem_of_getElem? (i := 20) rfl)) (hw _ (List.mem_of_getElem? (i := 21) rfl)) (hw _ (List.mem_of_getElem? (i := 22) rfl)) (hw _ (List.mem_of_getElem? (i := 23) rfl)) (by decide) pd_1 rfl (st_cmp3 hw a ka cs d h0 A1 hn hL) (by decide) rfl (by decide) (by decide) (by decide) rfl rfl (fun v19 h20 J21 q22 => ?_)
  obtain ⟨t23, kb24, rfl, le25, g26, K27, B28⟩ := q22
  show Wlk _ _ _ _ _ _ _ _ _ h20 1 2 39 #[.val (.ref s), .val (.ref a), .val (.int (0 : Int32)), .val (.int (Int32.ofNat cs.length)), .val .null, .unset] [(.ref t23)]
  refine Wlk.astore (pc' := 41) (Ls' := #[.val (.ref s), .val (.ref a), .val (.int (0 : Int32)), .val (.int (Int32.ofNat cs.length)), .val .null, .val (.ref t23)]) dc_jdk_42_method_149_code_39 rfl rfl rfl rfl ?_
  refine Wlk.aloadN (pc' := 42) (v := (.ref s)) dc_jdk_42_method_149_code_41 rfl rfl rfl ?_
  refine Wlk.aload (pc' := 44) (v := (.ref t23)) dc_jdk_42_method_149_code_42 rfl rfl rfl ?_
  refine Wlk.iloadN (pc' := 45) (v := (Int32.ofNat cs.length)) dc_jdk_42_method_149_code_44 rfl rfl ?_
  refine Wlk.callS (pc' := 48) (z := (⟨"java/lang/StringUTF16", "coderFromArrayLen", "([BI)B"⟩ : MethodName)) (argsL := [(.ref t23), (.int (Int32.ofNat cs.length))]) (st := [(.ref s)]) (W := 1) dc_jdk_42_method_149_code_45 (hw _ (List.mem_of_getElem? (i := 28) rfl)) (hw _ (List.mem_of_getElem? (i := 29) rfl)) (hw _ (List.mem_of_getElem? (i := 22) rfl)) (hw _ (List.mem_of_getElem? (i := 30) rfl)) (by decide) pd_2 rfl (st_cod hw t23 kb24 (Int32.ofNat cs.length) _ _ h20 B28) (by decide) rfl (by decide) (by decide) (by decide) rfl rfl (fun v29 h30 J31 q32 => ?_)
  obtain ⟨rfl, rfl⟩ := q32
  show Wlk _ _ _ _ _ _ _ _ _ h20 1 2 48 #[.val (.ref s), .val (.ref a), .val (.int (0 : Int32)), .val (.int (Int32.ofNat cs.length)), .val .null, .val (.ref t23)] [(.int (0 : Int32)), (.ref s)]
  have c33 := (F2.keep K27 nin0)
  have c34 := (E1.keep K27)
  refine Wlk.putF (pc' := 51) (ty := .byte) dc_jdk_42_method_149_code_48 (hw _ (List.mem_of_getElem? (i := 31) rfl)) Via.refl c33 c34 (Or.inr ⟨(hw _ (List.mem_of_getElem? (i := 32) rfl)), rfl, rfl⟩) (hw _ (List.mem_of_getElem? (i := 7) rfl)) (by decide) rfl rfl gs rfl (fun h36 W35 => ?_)
  have F37 := c33.same W35
  refine Wlk.aloadN (pc' := 52) (v := (.ref s)) dc_jdk_42_method_149_code_51 rfl rfl rfl ?_
  refine Wlk.aload (pc' := 54) (v := (.ref t23)) dc_jdk_42_method_149_code_52 rfl rfl rfl ?_
  have c38 := ((F1.keep K27 nin0).other W35 (Or.inr (slot_ne (Or.inr (hw _ (List.mem_of_getElem? (i := 34) rfl))) (Or.inr (hw _ (List.mem_of_getElem? (i := 32) rfl))) (by decide) (t := (.array .byte)) (t' := .byte) (by decide) (by decide))))
  have c39 := (c34.wr W35)
  refine Wlk.putF (pc' := 57) (ty := (.array .byte)) dc_jdk_42_method_149_code_54 (hw _ (List.mem_of_getElem? (i := 33) rfl)) Via.refl c38 c39 (Or.inr ⟨(hw _ (List.mem_of_getElem? (i := 34) rfl)), rfl, rfl⟩) (hw _ (List.mem_of_getElem? (i := 7) rfl)) (by decide) rfl rfl gs rfl (fun h41 W40 => ?_)
  have F42 := c38.same W40
  refine Wlk.return_ dc_jdk_42_method_149_code_57 rfl (by decide) (by decide) ?_
  have c43 := ((B28.other W35 (Ne.symm (Nat.ne_of_lt (Nat.lt_of_lt_of_le E1.lt (Nat.le_trans (Nat.le_refl _) le25))))).other W40 (Ne.symm (Nat.ne_of_lt (Nat.lt_of_lt_of_le E1.lt (Nat.le_trans (Nat.le_refl _) le25)))))
  have c44 := (c39.wr W40)
  have c45 := (F37.other W40 (Or.inr (slot_ne (Or.inr (hw _ (List.mem_of_getElem? (i := 32) rfl))) (Or.inr (hw _ (List.mem_of_getElem? (i := 34) rfl))) (by decide) (t := .byte) (t' := (.array .byte)) (by decide) (by decide))))
  exact ⟨rfl, ((((Keep.refl h0 [s]).trans K27 all0).wr W35 (Or.inl (List.mem_of_getElem? (i := 0) rfl))).wr W40 (Or.inl (List.mem_of_getElem? (i := 0) rfl))), t23, (Nat.le_trans (Nat.le_refl _) le25), g26, c44, F42, c45, kb24, c43⟩

set_option maxRecDepth 65536 in
set_option maxHeartbeats 40000000 in
theorem st_ini1 {l : Launch} {Z : State} {a0 : Array Value} (hw : ∀ d ∈ tables_1, d.before a0 Z = true) (s a : Addr) (u1 u2 : Value) (ka : ClassId) (cs : List Int32) (d : Value) (h0 : Heap) (E1 : Exa Z h0 s "java/lang/String") (F1 : Fld Z h0 s "java/lang/String" "value" "[B" u1) (F2 : Fld Z h0 s "java/lang/String" "coder" "B" u2) (gs : Z.heap.size ≤ s) (A1 : Arv Z h0 a ka .char (Int32.ofNat cs.length) (vC cs) d) (hn : cs.length ≤ 2) (hp : 0 < cs.length) (hL : ∀ c ∈ cs, ¬ (255 : Int32) < c) (zc : Int32) (O2 : Sta Z Z.heap "java/lang/String" "COMPACT_STRINGS" "Z" (.int zc)) (P3 : ¬ zc = 0) :
    Met l Z (⟨"java/lang/String", "<init>", "([C)V"⟩ : MethodName) jdk_42_method_3_code 2 none false [] ({ frames := 3, cells := 1, slots := 2, locals := 52 } : Room) #[(.ref s), (.ref a)] h0 (false, [], []) (fun v h J => v = none ∧ Keep h0 h [s] ∧ ∃ t, h0.size ≤ t ∧ Z.heap.size ≤ t ∧ StrL Z h s t cs) := by
  refine Met.of_goes (Ls := #[.val (.ref s), .val (.ref a)]) (by first | exact plainFor_of_name (by first | (simp [plainName, overriddenIn]; done) | decide +kernel) | decide +kernel) (fun m => by first | (simp [entryFrame, mkF, argsToLocals, Value.category]; done) | rfl) rfl (fun G hGl => ?_)
  subst hGl
  refine Wlk.aloadN (pc' := 1) (v := (.ref s)) dc_jdk_42_method_3_code_0 rfl rfl rfl ?_
  refine Wlk.aloadN (pc' := 2) (v := (.ref a)) dc_jdk_42_method_3_code_1 rfl rfl rfl ?_
  refine Wlk.iconst (pc' := 3) (v := (0 : Int32)) dc_jdk_42_method_3_code_2 rfl rfl ?_
  refine Wlk.aloadN (pc' := 4) (v := (.ref a)) dc_jdk_42_method_3_code_3 rfl rfl rfl ?_
  refine Wlk.arraylength (pc' := 5) dc_jdk_42_method_3_code_4 A1 rfl ?_
  refine Wlk.aconstNull (pc' := 6) dc_jdk_42_method_3_code_5 rfl ?_
  refine Wlk.callC (pc' := 9) (a := s) (z := (⟨"java/lang/String", "<init>", "([CIILjava/lang/Void;)V"⟩ : MethodName)) (argsL := [(.ref a), (.int (0 : Int32)), (.int (Int32.ofNat cs.length)), .null]) (st := []) (W := 0) dc_jdk_42_method_3_code_6 (hw _ (List.mem_of_getElem? (i := 12) rfl)) (hw _ (List.mem_of_getElem? (i := 13) rfl)) (hw _ (List.mem_of_getElem? (i := 8) rfl)) (hw _ (List.mem_of_getElem? (i := 15) rfl)) (by decide) rfl pd_3 rfl (st_ini4 hw s a u1 u2 ka cs d h0 E1 F1 F2 gs A1 hn hp hL zc O2 P3) (by decide) rfl (by decide) (by decide) (by decide) rfl rfl (fun v46 h47 J48 q49 => ?_)
  obtain ⟨rfl, K50, t51, le52, g53, S54⟩ := q49
  show Wlk _ _ _ _ _ _ _ _ _ h47 1 2 9 #[.val (.ref s), .val (.ref a)] []
  refine Wlk.return_ dc_jdk_42_method_3_code_9 rfl (by decide) (by decide) ?_
  exact ⟨rfl, K50, t51, le52, g53, S54⟩

set_option maxRecDepth 65536 in
set_option maxHeartbeats 40000000 in
theorem al_abc {l : Launch} {Z : State} {a0 : Array Value} (hw : ∀ d ∈ tables_1, d.before a0 Z = true) (a : Addr) (h0 : Heap)  :
    Met l Z (⟨"java/util/AbstractCollection", "<init>", "()V"⟩ : MethodName) jdk_22_method_1_code 1 none false [] ({ frames := 1, cells := 0, slots := 0, locals := 12 } : Room) #[(.ref a)] h0 (false, [], []) (fun v h J' => v = none ∧ h0 = h) := by
  refine Met.of_goes (Ls := #[.val (.ref a)]) (by first | exact plainFor_of_name (by first | (simp [plainName, overriddenIn]; done) | decide +kernel) | decide +kernel) (fun m => by first | (simp [entryFrame, mkF, argsToLocals, Value.category]; done) | rfl) rfl (fun G hGl => ?_)
  subst hGl
  refine Wlk.aloadN (pc' := 1) (v := (.ref a)) dc_jdk_22_method_1_code_0 rfl rfl rfl ?_
  refine Wlk.initO (pc' := 4) (W := 0) dc_jdk_22_method_1_code_1 (hw _ (List.mem_of_getElem? (i := 53) rfl)) (hw _ (List.mem_of_getElem? (i := 17) rfl)) (hw _ (List.mem_of_getElem? (i := 18) rfl)) (by decide) rfl (by decide) rfl ?_
  refine Wlk.return_ dc_jdk_22_method_1_code_4 rfl (by decide) (by decide) ?_
  exact ⟨rfl, rfl⟩

set_option maxRecDepth 65536 in
set_option maxHeartbeats 40000000 in
theorem al_abl {l : Launch} {Z : State} {a0 : Array Value} (hw : ∀ d ∈ tables_1, d.before a0 Z = true) (a : Addr) (u1 : Value) (u2 : Value) (m : Int32) (h0 : Heap) (q0_E : Exa Z h0 a "java/util/ArrayList") (q1_F : Fld Z h0 a "java/util/AbstractList" "modCount" "I" (.int m)) (q2_F : Fld Z h0 a "java/util/ArrayList" "elementData" "[Ljava/lang/Object;" u1) (q3_F : Fld Z h0 a "java/util/ArrayList" "size" "I" u2) (q4_G : Z.heap.size ≤ a) :
    Met l Z (⟨"java/util/AbstractList", "<init>", "()V"⟩ : MethodName) jdk_39_method_1_code 1 none false [] ({ frames := 2, cells := 0, slots := 0, locals := 24 } : Room) #[(.ref a)] h0 (false, [], []) (fun v h J' => v = none ∧ Keep h0 h [a] ∧ Exa Z h a "java/util/ArrayList" ∧ Fld Z h a "java/util/AbstractList" "modCount" "I" (.int (0 : Int32)) ∧ Fld Z h a "java/util/ArrayList" "elementData" "[Ljava/lang/Object;" u1 ∧ Fld Z h a "java/util/ArrayList" "size" "I" u2) := by
  refine Met.of_goes (Ls := #[.val (.ref a)]) (by first | exact plainFor_of_name (by first | (simp [plainName, overriddenIn]; done) | decide +kernel) | decide +kernel) (fun m => by first | (simp [entryFrame, mkF, argsToLocals, Value.category]; done) | rfl) rfl (fun G hGl => ?_)
  subst hGl
  refine Wlk.aloadN (pc' := 1) (v := (.ref a)) dc_jdk_39_method_1_code_0 rfl rfl rfl ?_
  refine Wlk.callC (pc' := 4) (a := a) (z := (⟨"java/util/AbstractCollection", "<init>", "()V"⟩ : MethodName)) (argsL := []) (st := []) (W := 0) dc_jdk_39_method_1_code_1 (hw _ (List.mem_of_getElem? (i := 47) rfl)) (hw _ (List.mem_of_getElem? (i := 48) rfl)) (hw _ (List.mem_of_getElem? (i := 51) rfl)) (hw _ (List.mem_of_getElem? (i := 52) rfl)) (by decide) rfl pd_4 rfl (al_abc hw a h0 ) (by decide) rfl (by decide) (by decide) (by decide) rfl rfl (fun v55 h56 J57 q58 => ?_)
  obtain ⟨rfl, rfl⟩ := q58
  show Wlk _ _ _ _ _ _ _ _ _ h0 0 0 4 #[.val (.ref a)] []
  refine Wlk.aloadN (pc' := 5) (v := (.ref a)) dc_jdk_39_method_1_code_4 rfl rfl rfl ?_
  refine Wlk.iconst (pc' := 6) (v := (0 : Int32)) dc_jdk_39_method_1_code_5 rfl rfl ?_
  refine Wlk.putF (pc' := 9) (ty := .int) dc_jdk_39_method_1_code_6 (hw _ (List.mem_of_getElem? (i := 54) rfl)) Via.refl q1_F q0_E (Or.inl (hw _ (List.mem_of_getElem? (i := 55) rfl))) (hw _ (List.mem_of_getElem? (i := 36) rfl)) (by decide) rfl rfl q4_G rfl (fun h60 W59 => ?_)
  have F61 := q1_F.same W59
  refine Wlk.return_ dc_jdk_39_method_1_code_9 rfl (by decide) (by decide) ?_
  have c62 := (q0_E.wr W59)
  have c63 := (q2_F.other W59 (Or.inr (slot_ne (Or.inl (hw _ (List.mem_of_getElem? (i := 58) rfl))) (Or.inl (hw _ (List.mem_of_getElem? (i := 55) rfl))) (by decide) (t := (.array (.object "java/lang/Object"))) (t' := .int) (by decide) (by decide))))
  have c64 := (q3_F.other W59 (Or.inr (slot_ne (Or.inl (hw _ (List.mem_of_getElem? (i := 71) rfl))) (Or.inl (hw _ (List.mem_of_getElem? (i := 55) rfl))) (by decide) (t := .int) (t' := .int) (by decide) (by decide))))
  exact ⟨rfl, ((Keep.refl h0 [a]).wr W59 (Or.inl (List.mem_of_getElem? (i := 0) rfl))), c62, F61, c63, c64⟩

set_option maxRecDepth 65536 in
set_option maxHeartbeats 40000000 in
theorem al_init {l : Launch} {Z : State} {a0 : Array Value} (hw : ∀ d ∈ tables_1, d.before a0 Z = true) (a : Addr) (u1 : Value) (n : Int32) (m : Int32) (de : Addr) (h0 : Heap) (q0_E : Exa Z h0 a "java/util/ArrayList") (q1_F : Fld Z h0 a "java/util/AbstractList" "modCount" "I" (.int m)) (q2_F : Fld Z h0 a "java/util/ArrayList" "elementData" "[Ljava/lang/Object;" u1) (q3_F : Fld Z h0 a "java/util/ArrayList" "size" "I" (.int n)) (q4_G : Z.heap.size ≤ a) (q5_Sta : Sta Z Z.heap "java/util/ArrayList" "DEFAULTCAPACITY_EMPTY_ELEMENTDATA" "[Ljava/lang/Object;" (.ref de)) :
    Met l Z (⟨"java/util/ArrayList", "<init>", "()V"⟩ : MethodName) jdk_38_method_2_code 1 none false [] ({ frames := 3, cells := 0, slots := 0, locals := 36 } : Room) #[(.ref a)] h0 (false, [], []) (fun v h J' => v = none ∧ Keep h0 h [a] ∧ Exa Z h a "java/util/ArrayList" ∧ Fld Z h a "java/util/AbstractList" "modCount" "I" (.int (0 : Int32)) ∧ Fld Z h a "java/util/ArrayList" "elementData" "[Ljava/lang/Object;" (.ref de) ∧ Fld Z h a "java/util/ArrayList" "size" "I" (.int n)) := by
  refine Met.of_goes (Ls := #[.val (.ref a)]) (by first | exact plainFor_of_name (by first | (simp [plainName, overriddenIn]; done) | decide +kernel) | decide +kernel) (fun m => by first | (simp [entryFrame, mkF, argsToLocals, Value.category]; done) | rfl) rfl (fun G hGl => ?_)
  subst hGl
  refine Wlk.aloadN (pc' := 1) (v := (.ref a)) dc_jdk_38_method_2_code_0 rfl rfl rfl ?_
  refine Wlk.callC (pc' := 4) (a := a) (z := (⟨"java/util/AbstractList", "<init>", "()V"⟩ : MethodName)) (argsL := []) (st := []) (W := 0) dc_jdk_38_method_2_code_1 (hw _ (List.mem_of_getElem? (i := 41) rfl)) (hw _ (List.mem_of_getElem? (i := 42) rfl)) (hw _ (List.mem_of_getElem? (i := 45) rfl)) (hw _ (List.mem_of_getElem? (i := 46) rfl)) (by decide) rfl pd_4 rfl (al_abl hw a u1 (.int n) m h0 q0_E q1_F q2_F q3_F q4_G) (by decide) rfl (by decide) (by decide) (by decide) rfl rfl (fun v65 h66 J67 q68 => ?_)
  obtain ⟨rfl, K69, n70, n71, n72, n73⟩ := q68
  show Wlk _ _ _ _ _ _ _ _ _ h66 0 0 4 #[.val (.ref a)] []
  refine Wlk.aloadN (pc' := 5) (v := (.ref a)) dc_jdk_38_method_2_code_4 rfl rfl rfl ?_
  refine Wlk.getS (pc' := 8) (v := (.ref de)) dc_jdk_38_method_2_code_5 (hw _ (List.mem_of_getElem? (i := 56) rfl)) Via.refl q5_Sta rfl ?_
  refine Wlk.putF (pc' := 11) (ty := (.array (.object "java/lang/Object"))) dc_jdk_38_method_2_code_8 (hw _ (List.mem_of_getElem? (i := 57) rfl)) Via.refl n72 n70 (Or.inl (hw _ (List.mem_of_getElem? (i := 58) rfl))) (hw _ (List.mem_of_getElem? (i := 36) rfl)) (by decide) rfl rfl q4_G rfl (fun h75 W74 => ?_)
  have F76 := n72.same W74
  refine Wlk.return_ dc_jdk_38_method_2_code_11 rfl (by decide) (by decide) ?_
  have c77 := (n70.wr W74)
  have c78 := (n71.other W74 (Or.inr (slot_ne (Or.inl (hw _ (List.mem_of_getElem? (i := 55) rfl))) (Or.inl (hw _ (List.mem_of_getElem? (i := 58) rfl))) (by decide) (t := .int) (t' := (.array (.object "java/lang/Object"))) (by decide) (by decide))))
  have c79 := (n73.other W74 (Or.inr (slot_ne (Or.inl (hw _ (List.mem_of_getElem? (i := 71) rfl))) (Or.inl (hw _ (List.mem_of_getElem? (i := 58) rfl))) (by decide) (t := .int) (t' := (.array (.object "java/lang/Object"))) (by decide) (by decide))))
  exact ⟨rfl, (((Keep.refl h0 [a]).trans K69 (allS (Or.inl (List.mem_of_getElem? (i := 0) rfl)) all0)).wr W74 (Or.inl (List.mem_of_getElem? (i := 0) rfl))), c77, c78, F76, c79⟩

set_option maxRecDepth 65536 in
set_option maxHeartbeats 40000000 in
theorem al_max {l : Launch} {Z : State} {a0 : Array Value} (hw : ∀ d ∈ tables_1, d.before a0 Z = true) (p : Int32) (q : Int32) (h0 : Heap) (hq : ¬ p < q) :
    Met l Z (⟨"java/lang/Math", "max", "(II)I"⟩ : MethodName) jdk_29_method_65_code 2 (some .int) false [] ({ frames := 0, cells := 0, slots := 0, locals := 0 } : Room) #[(.int p), (.int q)] h0 (false, [], []) (fun v h J' => v = some (.int p) ∧ h0 = h) := by
  refine Met.of_goes (Ls := #[.val (.int p), .val (.int q)]) (by first | exact plainFor_of_name (by first | (simp [plainName, overriddenIn]; done) | decide +kernel) | decide +kernel) (fun m => by first | (simp [entryFrame, mkF, argsToLocals, Value.category]; done) | rfl) rfl (fun G hGl => ?_)
  subst hGl
  refine Wlk.iloadN (pc' := 1) (v := p) dc_jdk_29_method_65_code_0 rfl rfl ?_
  refine Wlk.iloadN (pc' := 2) (v := q) dc_jdk_29_method_65_code_1 rfl rfl ?_
  refine Wlk.icF (pc' := 5) dc_jdk_29_method_65_code_2 (show ¬ (p < q) from hq) rfl ?_
  refine Wlk.iloadN (pc' := 6) (v := p) dc_jdk_29_method_65_code_5 rfl rfl ?_
  refine Wlk.goto (pc' := 10) dc_jdk_29_method_65_code_6 (by decide) (by decide) ?_
  refine Wlk.ireturnI dc_jdk_29_method_65_code_10 rfl (by decide) (by decide) ?_
  exact ⟨rfl, rfl⟩

set_option maxRecDepth 65536 in
set_option maxHeartbeats 40000000 in
theorem al_grow1 {l : Launch} {Z : State} {a0 : Array Value} (hw : ∀ d ∈ tables_1, d.before a0 Z = true) (a : Addr) (m : Int32) (de : Addr) (kd : ClassId) (h0 : Heap) (q0_E : Exa Z h0 a "java/util/ArrayList") (q1_F : Fld Z h0 a "java/util/AbstractList" "modCount" "I" (.int m)) (q2_F : Fld Z h0 a "java/util/ArrayList" "elementData" "[Ljava/lang/Object;" (.ref de)) (q3_F : Fld Z h0 a "java/util/ArrayList" "size" "I" (.int (0 : Int32))) (q4_G : Z.heap.size ≤ a) (q5_Sta : Sta Z Z.heap "java/util/ArrayList" "DEFAULTCAPACITY_EMPTY_ELEMENTDATA" "[Ljava/lang/Object;" (.ref de)) (D0 : Arv Z Z.heap de kd (.object "java/lang/Object") 0 [] .null) :
    Met l Z (⟨"java/util/ArrayList", "grow", "(I)[Ljava/lang/Object;"⟩ : MethodName) jdk_38_method_6_code 4 (some (.array (.object "java/lang/Object"))) false [] ({ frames := 1, cells := 1, slots := 10, locals := 14 } : Room) #[(.ref a), (.int (1 : Int32))] h0 (false, [], []) (fun v h J' => ∃ (b : Addr) (kb : ClassId), v = some (.ref b) ∧ h0.size ≤ b ∧ Z.heap.size ≤ b ∧ Keep h0 h [a] ∧ Exa Z h a "java/util/ArrayList" ∧ Fld Z h a "java/util/AbstractList" "modCount" "I" (.int m) ∧ Fld Z h a "java/util/ArrayList" "elementData" "[Ljava/lang/Object;" (.ref b) ∧ Fld Z h a "java/util/ArrayList" "size" "I" (.int (0 : Int32)) ∧ Arv Z h b kb (.object "java/lang/Object") (10 : Int32) [.null, .null, .null, .null, .null, .null, .null, .null, .null, .null] .null ∧ Ovr Z kb "java/lang/Object") := by
  refine Met.of_goes (Ls := #[.val (.ref a), .val (.int (1 : Int32)), .unset, .unset]) (by first | exact plainFor_of_name (by first | (simp [plainName, overriddenIn]; done) | decide +kernel) | decide +kernel) (fun m => by first | (simp [entryFrame, mkF, argsToLocals, Value.category]; done) | rfl) rfl (fun G hGl => ?_)
  subst hGl
  refine Wlk.ext0 (fun hE80 => ?_)
  have D1 := D0.ext hE80
  refine Wlk.aloadN (pc' := 1) (v := (.ref a)) dc_jdk_38_method_6_code_0 rfl rfl rfl ?_
  refine Wlk.getF (pc' := 4) (v := (.ref de)) dc_jdk_38_method_6_code_1 (hw _ (List.mem_of_getElem? (i := 57) rfl)) Via.refl q2_F rfl ?_
  refine Wlk.arraylength (pc' := 5) dc_jdk_38_method_6_code_4 D1 rfl ?_
  refine Wlk.istoreN (pc' := 6) (Ls' := #[.val (.ref a), .val (.int (1 : Int32)), .val (.int (0 : Int32)), .unset]) dc_jdk_38_method_6_code_5 rfl rfl rfl ?_
  refine Wlk.iloadN (pc' := 7) (v := (0 : Int32)) dc_jdk_38_method_6_code_6 rfl rfl ?_
  refine Wlk.ifF (pc' := 10) dc_jdk_38_method_6_code_7 (show ¬ ((0 : Int32) < (0 : Int32)) from by decide) rfl ?_
  refine Wlk.aloadN (pc' := 11) (v := (.ref a)) dc_jdk_38_method_6_code_10 rfl rfl rfl ?_
  refine Wlk.getF (pc' := 14) (v := (.ref de)) dc_jdk_38_method_6_code_11 (hw _ (List.mem_of_getElem? (i := 57) rfl)) Via.refl q2_F rfl ?_
  refine Wlk.getS (pc' := 17) (v := (.ref de)) dc_jdk_38_method_6_code_14 (hw _ (List.mem_of_getElem? (i := 56) rfl)) Via.refl q5_Sta rfl ?_
  refine Wlk.acmp (pc' := 45) (same := true) dc_jdk_38_method_6_code_17 rfl rfl (decide_eq_true rfl) (by decide) (by decide) ?_
  refine Wlk.aloadN (pc' := 46) (v := (.ref a)) dc_jdk_38_method_6_code_45 rfl rfl rfl ?_
  refine Wlk.bipush (pc' := 48) (v := (10 : Int32)) dc_jdk_38_method_6_code_46 (by decide) rfl ?_
  refine Wlk.iloadN (pc' := 49) (v := (1 : Int32)) dc_jdk_38_method_6_code_48 rfl rfl ?_
  refine Wlk.callS (pc' := 52) (z := (⟨"java/lang/Math", "max", "(II)I"⟩ : MethodName)) (argsL := [(.int (10 : Int32)), (.int (1 : Int32))]) (st := [(.ref a)]) (W := 1) dc_jdk_38_method_6_code_49 (hw _ (List.mem_of_getElem? (i := 87) rfl)) (hw _ (List.mem_of_getElem? (i := 88) rfl)) (hw _ (List.mem_of_getElem? (i := 89) rfl)) (hw _ (List.mem_of_getElem? (i := 90) rfl)) (by decide) pd_5 rfl (al_max hw (10 : Int32) (1 : Int32) h0 (by decide)) (by decide) rfl (by decide) (by decide) (by decide) rfl rfl (fun v81 h82 J83 q84 => ?_)
  obtain ⟨rfl, rfl⟩ := q84
  show Wlk _ _ _ _ _ _ _ _ _ h0 0 0 52 #[.val (.ref a), .val (.int (1 : Int32)), .val (.int (0 : Int32)), .unset] [(.int (10 : Int32)), (.ref a)]
  refine Wlk.newR (pc' := 55) (C := "java/lang/Object") (cap := 10) dc_jdk_38_method_6_code_52 (hw _ (List.mem_of_getElem? (i := 91) rfl)) (hw _ (List.mem_of_getElem? (i := 92) rfl)) (by decide) (by decide) (by decide) (by decide) (by decide) rfl (fun b85 h86 kc87 le88 g89 E90 O91 A92 => ?_)
  have A93 : Arv Z h86 b85 kc87 (.object "java/lang/Object") (10 : Int32) [.null, .null, .null, .null, .null, .null, .null, .null, .null, .null] .null := A92.pad (pad_rep [] .null 10)
  refine Wlk.dupX1 (pc' := 56) dc_jdk_38_method_6_code_55 rfl rfl rfl ?_
  have c94 := (q2_F.ext E90)
  have c95 := (q0_E.ext E90)
  refine Wlk.putF (pc' := 59) (ty := (.array (.object "java/lang/Object"))) dc_jdk_38_method_6_code_56 (hw _ (List.mem_of_getElem? (i := 57) rfl)) Via.refl c94 c95 (Or.inl (hw _ (List.mem_of_getElem? (i := 58) rfl))) (hw _ (List.mem_of_getElem? (i := 36) rfl)) (by decide) rfl rfl q4_G rfl (fun h97 W96 => ?_)
  have F98 := c94.same W96
  refine Wlk.areturn (t := (.array (.object "java/lang/Object"))) dc_jdk_38_method_6_code_59 rfl rfl rfl rfl (by decide) (by decide) ?_
  have c99 := (c95.wr W96)
  have c100 := ((q1_F.ext E90).other W96 (Or.inr (slot_ne (Or.inl (hw _ (List.mem_of_getElem? (i := 55) rfl))) (Or.inl (hw _ (List.mem_of_getElem? (i := 58) rfl))) (by decide) (t := .int) (t' := (.array (.object "java/lang/Object"))) (by decide) (by decide))))
  have c101 := ((q3_F.ext E90).other W96 (Or.inr (slot_ne (Or.inl (hw _ (List.mem_of_getElem? (i := 71) rfl))) (Or.inl (hw _ (List.mem_of_getElem? (i := 58) rfl))) (by decide) (t := .int) (t' := (.array (.object "java/lang/Object"))) (by decide) (by decide))))
  have c102 := (A93.other W96 (Ne.symm (Nat.ne_of_lt (Nat.lt_of_lt_of_le q0_E.lt (Nat.le_trans (Nat.le_refl _) le88)))))
  exact ⟨b85, kc87, rfl, (Nat.le_trans (Nat.le_refl _) le88), g89, (((Keep.refl h0 [a]).ext E90).wr W96 (Or.inl (List.mem_of_getElem? (i := 0) rfl))), c99, c100, F98, c101, c102, O91⟩

set_option maxRecDepth 65536 in
set_option maxHeartbeats 40000000 in
theorem al_grow0 {l : Launch} {Z : State} {a0 : Array Value} (hw : ∀ d ∈ tables_1, d.before a0 Z = true) (a : Addr) (m : Int32) (de : Addr) (kd : ClassId) (h0 : Heap) (q0_E : Exa Z h0 a "java/util/ArrayList") (q1_F : Fld Z h0 a "java/util/AbstractList" "modCount" "I" (.int m)) (q2_F : Fld Z h0 a "java/util/ArrayList" "elementData" "[Ljava/lang/Object;" (.ref de)) (q3_F : Fld Z h0 a "java/util/ArrayList" "size" "I" (.int (0 : Int32))) (q4_G : Z.heap.size ≤ a) (q5_Sta : Sta Z Z.heap "java/util/ArrayList" "DEFAULTCAPACITY_EMPTY_ELEMENTDATA" "[Ljava/lang/Object;" (.ref de)) (D0 : Arv Z Z.heap de kd (.object "java/lang/Object") 0 [] .null) :
    Met l Z (⟨"java/util/ArrayList", "grow", "()[Ljava/lang/Object;"⟩ : MethodName) jdk_38_method_7_code 1 (some (.array (.object "java/lang/Object"))) false [] ({ frames := 2, cells := 1, slots := 10, locals := 29 } : Room) #[(.ref a)] h0 (false, [], []) (fun v h J' => ∃ (b : Addr) (kb : ClassId), v = some (.ref b) ∧ h0.size ≤ b ∧ Z.heap.size ≤ b ∧ Keep h0 h [a] ∧ Exa Z h a "java/util/ArrayList" ∧ Fld Z h a "java/util/AbstractList" "modCount" "I" (.int m) ∧ Fld Z h a "java/util/ArrayList" "elementData" "[Ljava/lang/Object;" (.ref b) ∧ Fld Z h a "java/util/ArrayList" "size" "I" (.int (0 : Int32)) ∧ Arv Z h b kb (.object "java/lang/Object") (10 : Int32) [.null, .null, .null, .null, .null, .null, .null, .null, .null, .null] .null ∧ Ovr Z kb "java/lang/Object") := by
  refine Met.of_goes (Ls := #[.val (.ref a)]) (by first | exact plainFor_of_name (by first | (simp [plainName, overriddenIn]; done) | decide +kernel) | decide +kernel) (fun m => by first | (simp [entryFrame, mkF, argsToLocals, Value.category]; done) | rfl) rfl (fun G hGl => ?_)
  subst hGl
  refine Wlk.aloadN (pc' := 1) (v := (.ref a)) dc_jdk_38_method_7_code_0 rfl rfl rfl ?_
  refine Wlk.aloadN (pc' := 2) (v := (.ref a)) dc_jdk_38_method_7_code_1 rfl rfl rfl ?_
  refine Wlk.getF (pc' := 5) (v := (.int (0 : Int32))) dc_jdk_38_method_7_code_2 (hw _ (List.mem_of_getElem? (i := 70) rfl)) Via.refl q3_F rfl ?_
  refine Wlk.iconst (pc' := 6) (v := (1 : Int32)) dc_jdk_38_method_7_code_5 rfl rfl ?_
  refine Wlk.iadd (pc' := 7) dc_jdk_38_method_7_code_6 rfl ?_
  show Wlk _ _ _ _ _ _ _ _ _ _ _ _ _ _ [(.int (1 : Int32)), (.ref a)]
  refine Wlk.callP (pc' := 10) (a := a) (z := (⟨"java/util/ArrayList", "grow", "(I)[Ljava/lang/Object;"⟩ : MethodName)) (argsL := [(.int (1 : Int32))]) (st := []) (W := 0) dc_jdk_38_method_7_code_7 (hw _ (List.mem_of_getElem? (i := 82) rfl)) (hw _ (List.mem_of_getElem? (i := 83) rfl)) (hw _ (List.mem_of_getElem? (i := 85) rfl)) (hw _ (List.mem_of_getElem? (i := 84) rfl)) q0_E (hw _ (List.mem_of_getElem? (i := 37) rfl)) (hw _ (List.mem_of_getElem? (i := 86) rfl)) (by decide) pd_6 rfl (al_grow1 hw a m de _ h0 q0_E q1_F q2_F q3_F q4_G q5_Sta D0) (by decide) rfl (by decide) (by decide) (by decide) rfl rfl (fun v103 h104 J105 q106 => ?_)
  obtain ⟨b107, kb108, rfl, le109, g110, K111, n112, n113, n114, n115, n116, n117⟩ := q106
  show Wlk _ _ _ _ _ _ _ _ _ h104 1 10 10 #[.val (.ref a)] [(.ref b107)]
  refine Wlk.areturn (t := (.array (.object "java/lang/Object"))) dc_jdk_38_method_7_code_10 rfl rfl rfl rfl (by decide) (by decide) ?_
  exact ⟨b107, kb108, rfl, (Nat.le_trans (Nat.le_refl _) le109), g110, ((Keep.refl h0 [a]).trans K111 (allS (Or.inl (List.mem_of_getElem? (i := 0) rfl)) all0)), n112, n113, n114, n115, n116, n117⟩

set_option maxRecDepth 65536 in
set_option maxHeartbeats 40000000 in
theorem al_put1 {l : Launch} {Z : State} {a0 : Array Value} (hw : ∀ d ∈ tables_1, d.before a0 Z = true) (e : Addr) (a : Addr) (m : Int32) (de : Addr) (kd : ClassId) (h0 : Heap) (q0_E : Exa Z h0 a "java/util/ArrayList") (q1_F : Fld Z h0 a "java/util/AbstractList" "modCount" "I" (.int m)) (q2_F : Fld Z h0 a "java/util/ArrayList" "elementData" "[Ljava/lang/Object;" (.ref de)) (q3_F : Fld Z h0 a "java/util/ArrayList" "size" "I" (.int (0 : Int32))) (q4_G : Z.heap.size ≤ a) (q5_Sta : Sta Z Z.heap "java/util/ArrayList" "DEFAULTCAPACITY_EMPTY_ELEMENTDATA" "[Ljava/lang/Object;" (.ref de)) (D0 : Arv Z Z.heap de kd (.object "java/lang/Object") 0 [] .null) (q7_E : Exa Z h0 e "java/lang/String") :
    Met l Z (⟨"java/util/ArrayList", "add", "(Ljava/lang/Object;[Ljava/lang/Object;I)V"⟩ : MethodName) jdk_38_method_24_code 4 none false [] ({ frames := 3, cells := 1, slots := 10, locals := 41 } : Room) #[(.ref a), (.ref e), (.ref de), (.int (0 : Int32))] h0 (false, [], []) (fun v h J' => ∃ (b : Addr) (kb : ClassId), v = none ∧ h0.size ≤ b ∧ Z.heap.size ≤ b ∧ Keep h0 h [a] ∧ Exa Z h a "java/util/ArrayList" ∧ Fld Z h a "java/util/AbstractList" "modCount" "I" (.int m) ∧ Fld Z h a "java/util/ArrayList" "elementData" "[Ljava/lang/Object;" (.ref b) ∧ Fld Z h a "java/util/ArrayList" "size" "I" (.int (1 : Int32)) ∧ Arv Z h b kb (.object "java/lang/Object") (10 : Int32) [(.ref e), .null, .null, .null, .null, .null, .null, .null, .null, .null] .null ∧ Ovr Z kb "java/lang/Object") := by
  refine Met.of_goes (Ls := #[.val (.ref a), .val (.ref e), .val (.ref de), .val (.int (0 : Int32))]) (by first | exact plainFor_of_name (by first | (simp [plainName, overriddenIn]; done) | decide +kernel) | decide +kernel) (fun m => by first | (simp [entryFrame, mkF, argsToLocals, Value.category]; done) | rfl) rfl (fun G hGl => ?_)
  subst hGl
  refine Wlk.ext0 (fun hE118 => ?_)
  have D1 := D0.ext hE118
  refine Wlk.iloadN (pc' := 1) (v := (0 : Int32)) dc_jdk_38_method_24_code_0 rfl rfl ?_
  refine Wlk.aloadN (pc' := 2) (v := (.ref de)) dc_jdk_38_method_24_code_1 rfl rfl rfl ?_
  refine Wlk.arraylength (pc' := 3) dc_jdk_38_method_24_code_2 D1 rfl ?_
  refine Wlk.icF (pc' := 6) dc_jdk_38_method_24_code_3 (show (0 : Int32) = (0 : Int32) from by decide) rfl ?_
  refine Wlk.aloadN (pc' := 7) (v := (.ref a)) dc_jdk_38_method_24_code_6 rfl rfl rfl ?_
  refine Wlk.callP (pc' := 10) (a := a) (z := (⟨"java/util/ArrayList", "grow", "()[Ljava/lang/Object;"⟩ : MethodName)) (argsL := []) (st := []) (W := 0) dc_jdk_38_method_24_code_7 (hw _ (List.mem_of_getElem? (i := 77) rfl)) (hw _ (List.mem_of_getElem? (i := 78) rfl)) (hw _ (List.mem_of_getElem? (i := 80) rfl)) (hw _ (List.mem_of_getElem? (i := 79) rfl)) q0_E (hw _ (List.mem_of_getElem? (i := 37) rfl)) (hw _ (List.mem_of_getElem? (i := 81) rfl)) (by decide) pd_7 rfl (al_grow0 hw a m de _ h0 q0_E q1_F q2_F q3_F q4_G q5_Sta D0) (by decide) rfl (by decide) (by decide) (by decide) rfl rfl (fun v119 h120 J121 q122 => ?_)
  obtain ⟨b123, kb124, rfl, le125, g126, K127, n128, n129, n130, n131, n132, n133⟩ := q122
  show Wlk _ _ _ _ _ _ _ _ _ h120 1 10 10 #[.val (.ref a), .val (.ref e), .val (.ref de), .val (.int (0 : Int32))] [(.ref b123)]
  refine Wlk.astoreN (pc' := 11) (Ls' := #[.val (.ref a), .val (.ref e), .val (.ref b123), .val (.int (0 : Int32))]) dc_jdk_38_method_24_code_10 rfl rfl rfl rfl ?_
  refine Wlk.aloadN (pc' := 12) (v := (.ref b123)) dc_jdk_38_method_24_code_11 rfl rfl rfl ?_
  refine Wlk.iloadN (pc' := 13) (v := (0 : Int32)) dc_jdk_38_method_24_code_12 rfl rfl ?_
  refine Wlk.aloadN (pc' := 14) (v := (.ref e)) dc_jdk_38_method_24_code_13 rfl rfl rfl ?_
  have c137 := (q7_E.keep K127)
  refine Wlk.aastore (pc' := 15) (i := 0) dc_jdk_38_method_24_code_14 n132 rfl rfl (sto_arv n132 n133 (Ins.of_exa c137 (hw _ (List.mem_of_getElem? (i := 93) rfl)))) ⟨by decide, by decide⟩ rfl (Nat.le_of_ble_eq_true rfl) g126 rfl (fun h134 W135 A136 => ?_)
  have A138 : Arv Z h134 b123 kb124 (.object "java/lang/Object") (10 : Int32) [(.ref e), .null, .null, .null, .null, .null, .null, .null, .null, .null] .null := A136
  refine Wlk.aloadN (pc' := 16) (v := (.ref a)) dc_jdk_38_method_24_code_15 rfl rfl rfl ?_
  refine Wlk.iloadN (pc' := 17) (v := (0 : Int32)) dc_jdk_38_method_24_code_16 rfl rfl ?_
  refine Wlk.iconst (pc' := 18) (v := (1 : Int32)) dc_jdk_38_method_24_code_17 rfl rfl ?_
  refine Wlk.iadd (pc' := 19) dc_jdk_38_method_24_code_18 rfl ?_
  show Wlk _ _ _ _ _ _ _ _ _ _ _ _ _ _ [(.int (1 : Int32)), (.ref a)]
  have c139 := (n131.other W135 (Or.inl (Nat.ne_of_lt (Nat.lt_of_lt_of_le q0_E.lt (Nat.le_trans (Nat.le_refl _) le125)))))
  have c140 := (n128.wr W135)
  refine Wlk.putF (pc' := 22) (ty := .int) dc_jdk_38_method_24_code_19 (hw _ (List.mem_of_getElem? (i := 70) rfl)) Via.refl c139 c140 (Or.inl (hw _ (List.mem_of_getElem? (i := 71) rfl))) (hw _ (List.mem_of_getElem? (i := 36) rfl)) (by decide) rfl rfl q4_G rfl (fun h142 W141 => ?_)
  have F143 := c139.same W141
  refine Wlk.return_ dc_jdk_38_method_24_code_22 rfl (by decide) (by decide) ?_
  have c144 := (c140.wr W141)
  have c145 := ((n129.other W135 (Or.inl (Nat.ne_of_lt (Nat.lt_of_lt_of_le q0_E.lt (Nat.le_trans (Nat.le_refl _) le125))))).other W141 (Or.inr (slot_ne (Or.inl (hw _ (List.mem_of_getElem? (i := 55) rfl))) (Or.inl (hw _ (List.mem_of_getElem? (i := 71) rfl))) (by decide) (t := .int) (t' := .int) (by decide) (by decide))))
  have c146 := ((n130.other W135 (Or.inl (Nat.ne_of_lt (Nat.lt_of_lt_of_le q0_E.lt (Nat.le_trans (Nat.le_refl _) le125))))).other W141 (Or.inr (slot_ne (Or.inl (hw _ (List.mem_of_getElem? (i := 58) rfl))) (Or.inl (hw _ (List.mem_of_getElem? (i := 71) rfl))) (by decide) (t := (.array (.object "java/lang/Object"))) (t' := .int) (by decide) (by decide))))
  have c147 := (A138.other W141 (Ne.symm (Nat.ne_of_lt (Nat.lt_of_lt_of_le q0_E.lt (Nat.le_trans (Nat.le_refl _) le125)))))
  exact ⟨b123, kb124, rfl, (Nat.le_trans (Nat.le_refl _) le125), g126, ((((Keep.refl h0 [a]).trans K127 (allS (Or.inl (List.mem_of_getElem? (i := 0) rfl)) all0)).wr W135 (Or.inr (Nat.le_trans (Nat.le_refl _) le125))).wr W141 (Or.inl (List.mem_of_getElem? (i := 0) rfl))), c144, c145, c146, F143, c147, n133⟩

set_option maxRecDepth 65536 in
set_option maxHeartbeats 40000000 in
theorem al_add1 {l : Launch} {Z : State} {a0 : Array Value} (hw : ∀ d ∈ tables_1, d.before a0 Z = true) (e : Addr) (a : Addr) (m : Int32) (de : Addr) (kd : ClassId) (h0 : Heap) (q0_E : Exa Z h0 a "java/util/ArrayList") (q1_F : Fld Z h0 a "java/util/AbstractList" "modCount" "I" (.int m)) (q2_F : Fld Z h0 a "java/util/ArrayList" "elementData" "[Ljava/lang/Object;" (.ref de)) (q3_F : Fld Z h0 a "java/util/ArrayList" "size" "I" (.int (0 : Int32))) (q4_G : Z.heap.size ≤ a) (q5_Sta : Sta Z Z.heap "java/util/ArrayList" "DEFAULTCAPACITY_EMPTY_ELEMENTDATA" "[Ljava/lang/Object;" (.ref de)) (D0 : Arv Z Z.heap de kd (.object "java/lang/Object") 0 [] .null) (q7_E : Exa Z h0 e "java/lang/String") :
    Met l Z (⟨"java/util/ArrayList", "add", "(Ljava/lang/Object;)Z"⟩ : MethodName) jdk_38_method_25_code 2 (some .boolean) false [] ({ frames := 4, cells := 1, slots := 10, locals := 56 } : Room) #[(.ref a), (.ref e)] h0 (false, [], []) (fun v h J' => ∃ (b : Addr) (kb : ClassId), v = some (.int (1 : Int32)) ∧ h0.size ≤ b ∧ Z.heap.size ≤ b ∧ Keep h0 h [a] ∧ Exa Z h a "java/util/ArrayList" ∧ Fld Z h a "java/util/AbstractList" "modCount" "I" (.int (m + 1)) ∧ Fld Z h a "java/util/ArrayList" "elementData" "[Ljava/lang/Object;" (.ref b) ∧ Fld Z h a "java/util/ArrayList" "size" "I" (.int (1 : Int32)) ∧ Arv Z h b kb (.object "java/lang/Object") (10 : Int32) [(.ref e), .null, .null, .null, .null, .null, .null, .null, .null, .null] .null ∧ Ovr Z kb "java/lang/Object") := by
  refine Met.of_goes (Ls := #[.val (.ref a), .val (.ref e)]) (by first | exact plainFor_of_name (by first | (simp [plainName, overriddenIn]; done) | decide +kernel) | decide +kernel) (fun m => by first | (simp [entryFrame, mkF, argsToLocals, Value.category]; done) | rfl) rfl (fun G hGl => ?_)
  subst hGl
  refine Wlk.aloadN (pc' := 1) (v := (.ref a)) dc_jdk_38_method_25_code_0 rfl rfl rfl ?_
  refine Wlk.dup (pc' := 2) dc_jdk_38_method_25_code_1 rfl rfl ?_
  refine Wlk.getF (pc' := 5) (v := (.int m)) dc_jdk_38_method_25_code_2 (hw _ (List.mem_of_getElem? (i := 68) rfl)) (Via.of (hw _ (List.mem_of_getElem? (i := 69) rfl))) q1_F rfl ?_
  refine Wlk.iconst (pc' := 6) (v := (1 : Int32)) dc_jdk_38_method_25_code_5 rfl rfl ?_
  refine Wlk.iadd (pc' := 7) dc_jdk_38_method_25_code_6 rfl ?_
  refine Wlk.putF (pc' := 10) (ty := .int) dc_jdk_38_method_25_code_7 (hw _ (List.mem_of_getElem? (i := 68) rfl)) (Via.of (hw _ (List.mem_of_getElem? (i := 69) rfl))) q1_F q0_E (Or.inl (hw _ (List.mem_of_getElem? (i := 55) rfl))) (hw _ (List.mem_of_getElem? (i := 36) rfl)) (by decide) rfl rfl q4_G rfl (fun h149 W148 => ?_)
  have F150 := q1_F.same W148
  refine Wlk.aloadN (pc' := 11) (v := (.ref a)) dc_jdk_38_method_25_code_10 rfl rfl rfl ?_
  refine Wlk.aloadN (pc' := 12) (v := (.ref e)) dc_jdk_38_method_25_code_11 rfl rfl rfl ?_
  refine Wlk.aloadN (pc' := 13) (v := (.ref a)) dc_jdk_38_method_25_code_12 rfl rfl rfl ?_
  have c151 := (q2_F.other W148 (Or.inr (slot_ne (Or.inl (hw _ (List.mem_of_getElem? (i := 58) rfl))) (Or.inl (hw _ (List.mem_of_getElem? (i := 55) rfl))) (by decide) (t := (.array (.object "java/lang/Object"))) (t' := .int) (by decide) (by decide))))
  refine Wlk.getF (pc' := 16) (v := (.ref de)) dc_jdk_38_method_25_code_13 (hw _ (List.mem_of_getElem? (i := 57) rfl)) Via.refl c151 rfl ?_
  refine Wlk.aloadN (pc' := 17) (v := (.ref a)) dc_jdk_38_method_25_code_16 rfl rfl rfl ?_
  have c152 := (q3_F.other W148 (Or.inr (slot_ne (Or.inl (hw _ (List.mem_of_getElem? (i := 71) rfl))) (Or.inl (hw _ (List.mem_of_getElem? (i := 55) rfl))) (by decide) (t := .int) (t' := .int) (by decide) (by decide))))
  refine Wlk.getF (pc' := 20) (v := (.int (0 : Int32))) dc_jdk_38_method_25_code_17 (hw _ (List.mem_of_getElem? (i := 70) rfl)) Via.refl c152 rfl ?_
  have c153 := (q0_E.wr W148)
  have c154 := (q7_E.wr W148)
  refine Wlk.callP (pc' := 23) (a := a) (z := (⟨"java/util/ArrayList", "add", "(Ljava/lang/Object;[Ljava/lang/Object;I)V"⟩ : MethodName)) (argsL := [(.ref e), (.ref de), (.int (0 : Int32))]) (st := []) (W := 0) dc_jdk_38_method_25_code_20 (hw _ (List.mem_of_getElem? (i := 72) rfl)) (hw _ (List.mem_of_getElem? (i := 73) rfl)) (hw _ (List.mem_of_getElem? (i := 75) rfl)) (hw _ (List.mem_of_getElem? (i := 74) rfl)) c153 (hw _ (List.mem_of_getElem? (i := 37) rfl)) (hw _ (List.mem_of_getElem? (i := 76) rfl)) (by decide) pd_8 rfl (al_put1 hw e a (m + (1 : Int32)) de _ h149 c153 F150 c151 c152 q4_G q5_Sta D0 c154) (by decide) rfl (by decide) (by decide) (by decide) rfl rfl (fun v155 h156 J157 q158 => ?_)
  obtain ⟨b159, kb160, rfl, le161, g162, K163, n164, n165, n166, n167, n168, n169⟩ := q158
  show Wlk _ _ _ _ _ _ _ _ _ h156 1 10 23 #[.val (.ref a), .val (.ref e)] []
  refine Wlk.iconst (pc' := 24) (v := (1 : Int32)) dc_jdk_38_method_25_code_23 rfl rfl ?_
  refine Wlk.ireturnN (t := .boolean) dc_jdk_38_method_25_code_24 rfl (by simp) (by decide) (by decide) ?_
  exact ⟨b159, kb160, rfl, (Nat.le_trans (Nat.le_of_eq W148.size.symm) le161), g162, (((Keep.refl h0 [a]).wr W148 (Or.inl (List.mem_of_getElem? (i := 0) rfl))).trans K163 (allS (Or.inl (List.mem_of_getElem? (i := 0) rfl)) all0)), n164, n165, n166, n167, n168, n169⟩

set_option maxRecDepth 65536 in
set_option maxHeartbeats 40000000 in
theorem al_put2 {l : Launch} {Z : State} {a0 : Array Value} (hw : ∀ d ∈ tables_1, d.before a0 Z = true) (a : Addr) (e : Addr) (b : Addr) (kb : ClassId) (n : Nat) (m : Int32) (vs : List Value) (h0 : Heap) (q0_E : Exa Z h0 a "java/util/ArrayList") (q1_F : Fld Z h0 a "java/util/AbstractList" "modCount" "I" (.int m)) (q2_F : Fld Z h0 a "java/util/ArrayList" "elementData" "[Ljava/lang/Object;" (.ref b)) (q3_F : Fld Z h0 a "java/util/ArrayList" "size" "I" (.int (Int32.ofNat n))) (q4_A : Arv Z h0 b kb (.object "java/lang/Object") (10 : Int32) vs .null) (q5_O : Ovr Z kb "java/lang/Object") (q6_G : Z.heap.size ≤ a) (q7_G : Z.heap.size ≤ b) (q8_E : Exa Z h0 e "java/lang/String") (q9_NE : a ≠ b) (hvs : vs.length = 10) (hn : n < 10) :
    Met l Z (⟨"java/util/ArrayList", "add", "(Ljava/lang/Object;[Ljava/lang/Object;I)V"⟩ : MethodName) jdk_38_method_24_code 4 none false [] ({ frames := 0, cells := 0, slots := 0, locals := 0 } : Room) #[(.ref a), (.ref e), (.ref b), (.int (Int32.ofNat n))] h0 (false, [], []) (fun v h J' => v = none ∧ Keep h0 h [a, b] ∧ Exa Z h a "java/util/ArrayList" ∧ Fld Z h a "java/util/AbstractList" "modCount" "I" (.int m) ∧ Fld Z h a "java/util/ArrayList" "elementData" "[Ljava/lang/Object;" (.ref b) ∧ Fld Z h a "java/util/ArrayList" "size" "I" (.int (Int32.ofNat (n + 1))) ∧ Arv Z h b kb (.object "java/lang/Object") (10 : Int32) (List.set vs n (.ref e)) .null ∧ Ovr Z kb "java/lang/Object") := by
  refine Met.of_goes (Ls := #[.val (.ref a), .val (.ref e), .val (.ref b), .val (.int (Int32.ofNat n))]) (by first | exact plainFor_of_name (by first | (simp [plainName, overriddenIn]; done) | decide +kernel) | decide +kernel) (fun m => by first | (simp [entryFrame, mkF, argsToLocals, Value.category]; done) | rfl) rfl (fun G hGl => ?_)
  subst hGl
  refine Wlk.iloadN (pc' := 1) (v := (Int32.ofNat n)) dc_jdk_38_method_24_code_0 rfl rfl ?_
  refine Wlk.aloadN (pc' := 2) (v := (.ref b)) dc_jdk_38_method_24_code_1 rfl rfl rfl ?_
  refine Wlk.arraylength (pc' := 3) dc_jdk_38_method_24_code_2 q4_A rfl ?_
  refine Wlk.icT (pc' := 11) dc_jdk_38_method_24_code_3 (by decide) (by decide) (show ¬ ((Int32.ofNat n) = (10 : Int32)) from (fun q => absurd ((i32_eq (j := 10) (by omega) (by omega)).mp q) (by omega))) ?_
  refine Wlk.aloadN (pc' := 12) (v := (.ref b)) dc_jdk_38_method_24_code_11 rfl rfl rfl ?_
  refine Wlk.iloadN (pc' := 13) (v := (Int32.ofNat n)) dc_jdk_38_method_24_code_12 rfl rfl ?_
  refine Wlk.aloadN (pc' := 14) (v := (.ref e)) dc_jdk_38_method_24_code_13 rfl rfl rfl ?_
  refine Wlk.aastore (pc' := 15) (i := n) dc_jdk_38_method_24_code_14 q4_A rfl rfl (sto_arv q4_A q5_O (Ins.of_exa q8_E (hw _ (List.mem_of_getElem? (i := 93) rfl)))) ⟨i32_nn (by omega), (i32_lt (j := 10) (by omega) (by omega)).mpr hn⟩ (i32_cl (by omega)) (by omega) q7_G rfl (fun h170 W171 A172 => ?_)
  refine Wlk.aloadN (pc' := 16) (v := (.ref a)) dc_jdk_38_method_24_code_15 rfl rfl rfl ?_
  refine Wlk.iloadN (pc' := 17) (v := (Int32.ofNat n)) dc_jdk_38_method_24_code_16 rfl rfl ?_
  refine Wlk.iconst (pc' := 18) (v := (1 : Int32)) dc_jdk_38_method_24_code_17 rfl rfl ?_
  refine Wlk.iadd (pc' := 19) dc_jdk_38_method_24_code_18 rfl ?_
  rw [i32_succ]
  have c173 := (q3_F.other W171 (Or.inl q9_NE))
  have c174 := (q0_E.wr W171)
  refine Wlk.putF (pc' := 22) (ty := .int) dc_jdk_38_method_24_code_19 (hw _ (List.mem_of_getElem? (i := 70) rfl)) Via.refl c173 c174 (Or.inl (hw _ (List.mem_of_getElem? (i := 71) rfl))) (hw _ (List.mem_of_getElem? (i := 36) rfl)) (by decide) rfl rfl q6_G rfl (fun h176 W175 => ?_)
  have F177 := c173.same W175
  refine Wlk.return_ dc_jdk_38_method_24_code_22 rfl (by decide) (by decide) ?_
  have c178 := (c174.wr W175)
  have c179 := ((q1_F.other W171 (Or.inl q9_NE)).other W175 (Or.inr (slot_ne (Or.inl (hw _ (List.mem_of_getElem? (i := 55) rfl))) (Or.inl (hw _ (List.mem_of_getElem? (i := 71) rfl))) (by decide) (t := .int) (t' := .int) (by decide) (by decide))))
  have c180 := ((q2_F.other W171 (Or.inl q9_NE)).other W175 (Or.inr (slot_ne (Or.inl (hw _ (List.mem_of_getElem? (i := 58) rfl))) (Or.inl (hw _ (List.mem_of_getElem? (i := 71) rfl))) (by decide) (t := (.array (.object "java/lang/Object"))) (t' := .int) (by decide) (by decide))))
  have c181 := (A172.other W175 (Ne.symm q9_NE))
  exact ⟨rfl, (((Keep.refl h0 [a, b]).wr W171 (Or.inl (List.mem_of_getElem? (i := 1) rfl))).wr W175 (Or.inl (List.mem_of_getElem? (i := 0) rfl))), c178, c179, c180, F177, c181, q5_O⟩

set_option maxRecDepth 65536 in
set_option maxHeartbeats 40000000 in
theorem al_add2 {l : Launch} {Z : State} {a0 : Array Value} (hw : ∀ d ∈ tables_1, d.before a0 Z = true) (a : Addr) (e : Addr) (b : Addr) (kb : ClassId) (n : Nat) (m : Int32) (vs : List Value) (h0 : Heap) (q0_E : Exa Z h0 a "java/util/ArrayList") (q1_F : Fld Z h0 a "java/util/AbstractList" "modCount" "I" (.int m)) (q2_F : Fld Z h0 a "java/util/ArrayList" "elementData" "[Ljava/lang/Object;" (.ref b)) (q3_F : Fld Z h0 a "java/util/ArrayList" "size" "I" (.int (Int32.ofNat n))) (q4_A : Arv Z h0 b kb (.object "java/lang/Object") (10 : Int32) vs .null) (q5_O : Ovr Z kb "java/lang/Object") (q6_G : Z.heap.size ≤ a) (q7_G : Z.heap.size ≤ b) (q8_E : Exa Z h0 e "java/lang/String") (q9_NE : a ≠ b) (hvs : vs.length = 10) (hn : n < 10) :
    Met l Z (⟨"java/util/ArrayList", "add", "(Ljava/lang/Object;)Z"⟩ : MethodName) jdk_38_method_25_code 2 (some .boolean) false [] ({ frames := 1, cells := 0, slots := 0, locals := 15 } : Room) #[(.ref a), (.ref e)] h0 (false, [], []) (fun v h J' => v = some (.int (1 : Int32)) ∧ Keep h0 h [a, b] ∧ Exa Z h a "java/util/ArrayList" ∧ Fld Z h a "java/util/AbstractList" "modCount" "I" (.int (m + 1)) ∧ Fld Z h a "java/util/ArrayList" "elementData" "[Ljava/lang/Object;" (.ref b) ∧ Fld Z h a "java/util/ArrayList" "size" "I" (.int (Int32.ofNat (n + 1))) ∧ Arv Z h b kb (.object "java/lang/Object") (10 : Int32) (List.set vs n (.ref e)) .null ∧ Ovr Z kb "java/lang/Object") := by
  refine Met.of_goes (Ls := #[.val (.ref a), .val (.ref e)]) (by first | exact plainFor_of_name (by first | (simp [plainName, overriddenIn]; done) | decide +kernel) | decide +kernel) (fun m => by first | (simp [entryFrame, mkF, argsToLocals, Value.category]; done) | rfl) rfl (fun G hGl => ?_)
  subst hGl
  refine Wlk.aloadN (pc' := 1) (v := (.ref a)) dc_jdk_38_method_25_code_0 rfl rfl rfl ?_
  refine Wlk.dup (pc' := 2) dc_jdk_38_method_25_code_1 rfl rfl ?_
  refine Wlk.getF (pc' := 5) (v := (.int m)) dc_jdk_38_method_25_code_2 (hw _ (List.mem_of_getElem? (i := 68) rfl)) (Via.of (hw _ (List.mem_of_getElem? (i := 69) rfl))) q1_F rfl ?_
  refine Wlk.iconst (pc' := 6) (v := (1 : Int32)) dc_jdk_38_method_25_code_5 rfl rfl ?_
  refine Wlk.iadd (pc' := 7) dc_jdk_38_method_25_code_6 rfl ?_
  refine Wlk.putF (pc' := 10) (ty := .int) dc_jdk_38_method_25_code_7 (hw _ (List.mem_of_getElem? (i := 68) rfl)) (Via.of (hw _ (List.mem_of_getElem? (i := 69) rfl))) q1_F q0_E (Or.inl (hw _ (List.mem_of_getElem? (i := 55) rfl))) (hw _ (List.mem_of_getElem? (i := 36) rfl)) (by decide) rfl rfl q6_G rfl (fun h183 W182 => ?_)
  have F184 := q1_F.same W182
  refine Wlk.aloadN (pc' := 11) (v := (.ref a)) dc_jdk_38_method_25_code_10 rfl rfl rfl ?_
  refine Wlk.aloadN (pc' := 12) (v := (.ref e)) dc_jdk_38_method_25_code_11 rfl rfl rfl ?_
  refine Wlk.aloadN (pc' := 13) (v := (.ref a)) dc_jdk_38_method_25_code_12 rfl rfl rfl ?_
  have c185 := (q2_F.other W182 (Or.inr (slot_ne (Or.inl (hw _ (List.mem_of_getElem? (i := 58) rfl))) (Or.inl (hw _ (List.mem_of_getElem? (i := 55) rfl))) (by decide) (t := (.array (.object "java/lang/Object"))) (t' := .int) (by decide) (by decide))))
  refine Wlk.getF (pc' := 16) (v := (.ref b)) dc_jdk_38_method_25_code_13 (hw _ (List.mem_of_getElem? (i := 57) rfl)) Via.refl c185 rfl ?_
  refine Wlk.aloadN (pc' := 17) (v := (.ref a)) dc_jdk_38_method_25_code_16 rfl rfl rfl ?_
  have c186 := (q3_F.other W182 (Or.inr (slot_ne (Or.inl (hw _ (List.mem_of_getElem? (i := 71) rfl))) (Or.inl (hw _ (List.mem_of_getElem? (i := 55) rfl))) (by decide) (t := .int) (t' := .int) (by decide) (by decide))))
  refine Wlk.getF (pc' := 20) (v := (.int (Int32.ofNat n))) dc_jdk_38_method_25_code_17 (hw _ (List.mem_of_getElem? (i := 70) rfl)) Via.refl c186 rfl ?_
  have c187 := (q0_E.wr W182)
  have c188 := (q4_A.other W182 (Ne.symm q9_NE))
  have c189 := (q8_E.wr W182)
  refine Wlk.callP (pc' := 23) (a := a) (z := (⟨"java/util/ArrayList", "add", "(Ljava/lang/Object;[Ljava/lang/Object;I)V"⟩ : MethodName)) (argsL := [(.ref e), (.ref b), (.int (Int32.ofNat n))]) (st := []) (W := 0) dc_jdk_38_method_25_code_20 (hw _ (List.mem_of_getElem? (i := 72) rfl)) (hw _ (List.mem_of_getElem? (i := 73) rfl)) (hw _ (List.mem_of_getElem? (i := 75) rfl)) (hw _ (List.mem_of_getElem? (i := 74) rfl)) c187 (hw _ (List.mem_of_getElem? (i := 37) rfl)) (hw _ (List.mem_of_getElem? (i := 76) rfl)) (by decide) pd_8 rfl (al_put2 hw a e b kb n (m + (1 : Int32)) vs h183 c187 F184 c185 c186 c188 q5_O q6_G q7_G c189 q9_NE hvs hn) (by decide) rfl (by decide) (by decide) (by decide) rfl rfl (fun v190 h191 J192 q193 => ?_)
  obtain ⟨rfl, K194, n195, n196, n197, n198, n199, n200⟩ := q193
  show Wlk _ _ _ _ _ _ _ _ _ h191 0 0 23 #[.val (.ref a), .val (.ref e)] []
  refine Wlk.iconst (pc' := 24) (v := (1 : Int32)) dc_jdk_38_method_25_code_23 rfl rfl ?_
  refine Wlk.ireturnN (t := .boolean) dc_jdk_38_method_25_code_24 rfl (by simp) (by decide) (by decide) ?_
  exact ⟨rfl, (((Keep.refl h0 [a, b]).wr W182 (Or.inl (List.mem_of_getElem? (i := 0) rfl))).trans K194 (allS (Or.inl (List.mem_of_getElem? (i := 0) rfl)) (allS (Or.inl (List.mem_of_getElem? (i := 1) rfl)) all0))), n195, n196, n197, n198, n199, n200⟩

set_option maxRecDepth 65536 in
set_option maxHeartbeats 40000000 in
theorem al_ck2 {l : Launch} {Z : State} {a0 : Array Value} (hw : ∀ d ∈ tables_1, d.before a0 Z = true) (i : Int32) (n : Int32) (h0 : Heap) (h0i : ¬ i < 0) (hin : i < n) :
    Met l Z (⟨"jdk/internal/util/Preconditions", "checkIndex", "(IILjava/util/function/BiFunction;)I"⟩ : MethodName) jdk_41_method_11_code 3 (some .int) false [] ({ frames := 0, cells := 0, slots := 0, locals := 0 } : Room) #[(.int i), (.int n), .null] h0 (false, [], []) (fun v h J' => v = some (.int i) ∧ h0 = h) := by
  refine Met.of_goes (Ls := #[.val (.int i), .val (.int n), .val .null]) (by first | exact plainFor_of_name (by first | (simp [plainName, overriddenIn]; done) | decide +kernel) | decide +kernel) (fun m => by first | (simp [entryFrame, mkF, argsToLocals, Value.category]; done) | rfl) rfl (fun G hGl => ?_)
  subst hGl
  refine Wlk.iloadN (pc' := 1) (v := i) dc_jdk_41_method_11_code_0 rfl rfl ?_
  refine Wlk.ifF (pc' := 4) dc_jdk_41_method_11_code_1 (show ¬ (i < (0 : Int32)) from h0i) rfl ?_
  refine Wlk.iloadN (pc' := 5) (v := i) dc_jdk_41_method_11_code_4 rfl rfl ?_
  refine Wlk.iloadN (pc' := 6) (v := n) dc_jdk_41_method_11_code_5 rfl rfl ?_
  refine Wlk.icT (pc' := 16) dc_jdk_41_method_11_code_6 (by decide) (by decide) (show i < n from hin) ?_
  refine Wlk.iloadN (pc' := 17) (v := i) dc_jdk_41_method_11_code_16 rfl rfl ?_
  refine Wlk.ireturnI dc_jdk_41_method_11_code_17 rfl (by decide) (by decide) ?_
  exact ⟨rfl, rfl⟩

set_option maxRecDepth 65536 in
set_option maxHeartbeats 40000000 in
theorem al_ck1 {l : Launch} {Z : State} {a0 : Array Value} (hw : ∀ d ∈ tables_1, d.before a0 Z = true) (i : Int32) (n : Int32) (h0 : Heap) (h0i : ¬ i < 0) (hin : i < n) :
    Met l Z (⟨"java/util/Objects", "checkIndex", "(II)I"⟩ : MethodName) jdk_31_method_17_code 2 (some .int) false [] ({ frames := 1, cells := 0, slots := 0, locals := 14 } : Room) #[(.int i), (.int n)] h0 (false, [], []) (fun v h J' => v = some (.int i) ∧ h0 = h) := by
  refine Met.of_goes (Ls := #[.val (.int i), .val (.int n)]) (by first | exact plainFor_of_name (by first | (simp [plainName, overriddenIn]; done) | decide +kernel) | decide +kernel) (fun m => by first | (simp [entryFrame, mkF, argsToLocals, Value.category]; done) | rfl) rfl (fun G hGl => ?_)
  subst hGl
  refine Wlk.iloadN (pc' := 1) (v := i) dc_jdk_31_method_17_code_0 rfl rfl ?_
  refine Wlk.iloadN (pc' := 2) (v := n) dc_jdk_31_method_17_code_1 rfl rfl ?_
  refine Wlk.aconstNull (pc' := 3) dc_jdk_31_method_17_code_2 rfl ?_
  refine Wlk.callS (pc' := 6) (z := (⟨"jdk/internal/util/Preconditions", "checkIndex", "(IILjava/util/function/BiFunction;)I"⟩ : MethodName)) (argsL := [(.int i), (.int n), .null]) (st := []) (W := 0) dc_jdk_31_method_17_code_3 (hw _ (List.mem_of_getElem? (i := 127) rfl)) (hw _ (List.mem_of_getElem? (i := 128) rfl)) (hw _ (List.mem_of_getElem? (i := 129) rfl)) (hw _ (List.mem_of_getElem? (i := 130) rfl)) (by decide) pd_9 rfl (al_ck2 hw i n h0 h0i hin) (by decide) rfl (by decide) (by decide) (by decide) rfl rfl (fun v201 h202 J203 q204 => ?_)
  obtain ⟨rfl, rfl⟩ := q204
  show Wlk _ _ _ _ _ _ _ _ _ h0 0 0 6 #[.val (.int i), .val (.int n)] [(.int i)]
  refine Wlk.ireturnI dc_jdk_31_method_17_code_6 rfl (by decide) (by decide) ?_
  exact ⟨rfl, rfl⟩

set_option maxRecDepth 65536 in
set_option maxHeartbeats 40000000 in
theorem al_ed {l : Launch} {Z : State} {a0 : Array Value} (hw : ∀ d ∈ tables_1, d.before a0 Z = true) (a : Addr) (i : Int32) (b : Addr) (kb : ClassId) (e : Addr) (vs : List Value) (h0 : Heap) (q0_F : Fld Z h0 a "java/util/ArrayList" "elementData" "[Ljava/lang/Object;" (.ref b)) (q1_A : Arv Z h0 b kb (.object "java/lang/Object") (10 : Int32) vs .null) (h0i : ¬ i < 0) (h10 : i < 10) (hel : vs.getD i.toNatClampNeg .null = .ref e) :
    Met l Z (⟨"java/util/ArrayList", "elementData", "(I)Ljava/lang/Object;"⟩ : MethodName) jdk_38_method_18_code 2 (some (.object "java/lang/Object")) false [] ({ frames := 0, cells := 0, slots := 0, locals := 0 } : Room) #[(.ref a), (.int i)] h0 (false, [], []) (fun v h J' => v = some (.ref e) ∧ h0 = h) := by
  refine Met.of_goes (Ls := #[.val (.ref a), .val (.int i)]) (by first | exact plainFor_of_name (by first | (simp [plainName, overriddenIn]; done) | decide +kernel) | decide +kernel) (fun m => by first | (simp [entryFrame, mkF, argsToLocals, Value.category]; done) | rfl) rfl (fun G hGl => ?_)
  subst hGl
  refine Wlk.aloadN (pc' := 1) (v := (.ref a)) dc_jdk_38_method_18_code_0 rfl rfl rfl ?_
  refine Wlk.getF (pc' := 4) (v := (.ref b)) dc_jdk_38_method_18_code_1 (hw _ (List.mem_of_getElem? (i := 57) rfl)) Via.refl q0_F rfl ?_
  refine Wlk.iloadN (pc' := 5) (v := i) dc_jdk_38_method_18_code_4 rfl rfl ?_
  refine Wlk.aaload (pc' := 6) (v := (.ref e)) dc_jdk_38_method_18_code_5 q1_A rfl ⟨h0i, h10⟩ hel rfl ?_
  refine Wlk.areturn (t := (.object "java/lang/Object")) dc_jdk_38_method_18_code_6 rfl rfl rfl rfl (by decide) (by decide) ?_
  exact ⟨rfl, rfl⟩

set_option maxRecDepth 65536 in
set_option maxHeartbeats 40000000 in
theorem al_get {l : Launch} {Z : State} {a0 : Array Value} (hw : ∀ d ∈ tables_1, d.before a0 Z = true) (a : Addr) (i : Int32) (b : Addr) (kb : ClassId) (e : Addr) (vs : List Value) (n : Int32) (h0 : Heap) (q0_E : Exa Z h0 a "java/util/ArrayList") (q1_F : Fld Z h0 a "java/util/ArrayList" "elementData" "[Ljava/lang/Object;" (.ref b)) (q2_F : Fld Z h0 a "java/util/ArrayList" "size" "I" (.int n)) (q3_A : Arv Z h0 b kb (.object "java/lang/Object") (10 : Int32) vs .null) (hin : i < n) (h0i : ¬ i < 0) (h10 : i < 10) (hel : vs.getD i.toNatClampNeg .null = .ref e) :
    Met l Z (⟨"java/util/ArrayList", "get", "(I)Ljava/lang/Object;"⟩ : MethodName) jdk_38_method_20_code 2 (some (.object "java/lang/Object")) false [] ({ frames := 2, cells := 0, slots := 0, locals := 27 } : Room) #[(.ref a), (.int i)] h0 (false, [], []) (fun v h J' => v = some (.ref e) ∧ h0 = h) := by
  refine Met.of_goes (Ls := #[.val (.ref a), .val (.int i)]) (by first | exact plainFor_of_name (by first | (simp [plainName, overriddenIn]; done) | decide +kernel) | decide +kernel) (fun m => by first | (simp [entryFrame, mkF, argsToLocals, Value.category]; done) | rfl) rfl (fun G hGl => ?_)
  subst hGl
  refine Wlk.iloadN (pc' := 1) (v := i) dc_jdk_38_method_20_code_0 rfl rfl ?_
  refine Wlk.aloadN (pc' := 2) (v := (.ref a)) dc_jdk_38_method_20_code_1 rfl rfl rfl ?_
  refine Wlk.getF (pc' := 5) (v := (.int n)) dc_jdk_38_method_20_code_2 (hw _ (List.mem_of_getElem? (i := 70) rfl)) Via.refl q2_F rfl ?_
  refine Wlk.callS (pc' := 8) (z := (⟨"java/util/Objects", "checkIndex", "(II)I"⟩ : MethodName)) (argsL := [(.int i), (.int n)]) (st := []) (W := 0) dc_jdk_38_method_20_code_5 (hw _ (List.mem_of_getElem? (i := 123) rfl)) (hw _ (List.mem_of_getElem? (i := 124) rfl)) (hw _ (List.mem_of_getElem? (i := 125) rfl)) (hw _ (List.mem_of_getElem? (i := 126) rfl)) (by decide) pd_5 rfl (al_ck1 hw i n h0 h0i hin) (by decide) rfl (by decide) (by decide) (by decide) rfl rfl (fun v205 h206 J207 q208 => ?_)
  obtain ⟨rfl, rfl⟩ := q208
  show Wlk _ _ _ _ _ _ _ _ _ h0 0 0 8 #[.val (.ref a), .val (.int i)] [(.int i)]
  refine Wlk.pop (pc' := 9) dc_jdk_38_method_20_code_8 rfl rfl ?_
  refine Wlk.aloadN (pc' := 10) (v := (.ref a)) dc_jdk_38_method_20_code_9 rfl rfl rfl ?_
  refine Wlk.iloadN (pc' := 11) (v := i) dc_jdk_38_method_20_code_10 rfl rfl ?_
  refine Wlk.callV (pc' := 14) (a := a) (x := (⟨"java/util/ArrayList", "elementData", "(I)Ljava/lang/Object;"⟩ : MethodName)) (C := "java/util/ArrayList") (z := (⟨"java/util/ArrayList", "elementData", "(I)Ljava/lang/Object;"⟩ : MethodName)) (argsL := [(.int i)]) (st := []) (W := 0) dc_jdk_38_method_20_code_11 (hw _ (List.mem_of_getElem? (i := 131) rfl)) (hw _ (List.mem_of_getElem? (i := 132) rfl)) (fun s q => notFace_of_selects (args := #[]) (mvT q (hw _ (List.mem_of_getElem? (i := 134) rfl)))) (hw _ (List.mem_of_getElem? (i := 134) rfl)) (hw _ (List.mem_of_getElem? (i := 133) rfl)) q0_E (hw _ (List.mem_of_getElem? (i := 37) rfl)) (hw _ (List.mem_of_getElem? (i := 135) rfl)) (by decide) pd_10 rfl (al_ed hw a i b kb e vs h0 q1_F q3_A h0i h10 hel) (by decide) rfl (by decide) (by decide) (by decide) rfl rfl (fun v209 h210 J211 q212 => ?_)
  obtain ⟨rfl, rfl⟩ := q212
  show Wlk _ _ _ _ _ _ _ _ _ h0 0 0 14 #[.val (.ref a), .val (.int i)] [(.ref e)]
  refine Wlk.areturn (t := (.object "java/lang/Object")) dc_jdk_38_method_20_code_14 rfl rfl rfl rfl (by decide) (by decide) ?_
  exact ⟨rfl, rfl⟩

set_option maxRecDepth 65536 in
set_option maxHeartbeats 40000000 in
theorem rm_drawn {l : Launch} {Z : State} {a0 : Array Value} (hw : ∀ d ∈ tables_1, d.before a0 Z = true) (p : Int32) (zc : Int32) (h0 : Heap) (q0_Sta : Sta Z Z.heap "java/lang/String" "COMPACT_STRINGS" "Z" (.int zc)) (P3 : ¬ zc = 0) :
    Met l Z (⟨"com/example/fairgauge/fairgauge/io/RecordFieldPinLaw", "drawn", "(I)Ljava/lang/String;"⟩ : MethodName) method_2_code 2 (some (.object "java/lang/String")) false [] ({ frames := 4, cells := 3, slots := 8, locals := 66 } : Room) #[(.int p)] h0 (false, [], []) (fun v h J' => ∃ (s : Addr), v = some (.ref s) ∧ h0.size ≤ s ∧ Z.heap.size ≤ s ∧ Keep h0 h [] ∧ Exa Z h s "java/lang/String") := by
  refine Met.of_goes (Ls := #[.val (.int p), .unset]) (by first | exact plainFor_of_name (by first | (simp [plainName, overriddenIn]; done) | decide +kernel) | decide +kernel) (fun m => by first | (simp [entryFrame, mkF, argsToLocals, Value.category]; done) | rfl) rfl (fun G hGl => ?_)
  subst hGl
  have O2 := q0_Sta
  refine Wlk.iconst (pc' := 1) (v := (2 : Int32)) dc_method_2_code_0 rfl rfl ?_
  refine Wlk.newP (pc' := 3) (ty := .char) (cap := 2) dc_method_2_code_1 rfl (hw _ (List.mem_of_getElem? (i := 5) rfl)) (by decide) (by decide) (by decide) (by decide) (by decide) rfl (fun b213 h214 kc215 le216 g217 E218 A219 => ?_)
  have A220 : Arv Z h214 b213 kc215 .char (2 : Int32) [.int 0, .int 0] (.int 0) := A219.pad (pad_rep [] (.int 0) 2)
  refine Wlk.astoreN (pc' := 4) (Ls' := #[.val (.int p), .val (.ref b213)]) dc_method_2_code_3 rfl rfl rfl rfl ?_
  refine Wlk.aloadN (pc' := 5) (v := (.ref b213)) dc_method_2_code_4 rfl rfl rfl ?_
  refine Wlk.iconst (pc' := 6) (v := (0 : Int32)) dc_method_2_code_5 rfl rfl ?_
  refine Wlk.iloadN (pc' := 7) (v := p) dc_method_2_code_6 rfl rfl ?_
  refine Wlk.sipush (pc' := 10) (v := (255 : Int32)) dc_method_2_code_7 (by decide) rfl ?_
  refine Wlk.iand (pc' := 11) dc_method_2_code_10 rfl ?_
  refine Wlk.i2c (pc' := 12) dc_method_2_code_11 rfl ?_
  refine Wlk.castore (pc' := 13) (i := 0) dc_method_2_code_12 A220 ⟨by decide, by decide⟩ rfl (Nat.le_of_ble_eq_true rfl) g217 rfl (fun h221 W222 A223 => ?_)
  have A224 : Arv Z h221 b213 kc215 .char (2 : Int32) [(.int (nar .char (((p &&& (255 : Int32))).toUInt32.toUInt16.toUInt32.toInt32))), (.int (0 : Int32))] (.int 0) := A223
  refine Wlk.aloadN (pc' := 14) (v := (.ref b213)) dc_method_2_code_13 rfl rfl rfl ?_
  refine Wlk.iconst (pc' := 15) (v := (1 : Int32)) dc_method_2_code_14 rfl rfl ?_
  refine Wlk.iloadN (pc' := 16) (v := p) dc_method_2_code_15 rfl rfl ?_
  refine Wlk.bipush (pc' := 18) (v := (8 : Int32)) dc_method_2_code_16 (by decide) rfl ?_
  refine Wlk.iushr (pc' := 19) dc_method_2_code_18 rfl ?_
  refine Wlk.sipush (pc' := 22) (v := (255 : Int32)) dc_method_2_code_19 (by decide) rfl ?_
  refine Wlk.iand (pc' := 23) dc_method_2_code_22 rfl ?_
  refine Wlk.i2c (pc' := 24) dc_method_2_code_23 rfl ?_
  refine Wlk.castore (pc' := 25) (i := 1) dc_method_2_code_24 A224 ⟨by decide, by decide⟩ rfl (Nat.le_of_ble_eq_true rfl) g217 rfl (fun h225 W226 A227 => ?_)
  have A228 : Arv Z h225 b213 kc215 .char (2 : Int32) [(.int (nar .char (((p &&& (255 : Int32))).toUInt32.toUInt16.toUInt32.toInt32))), (.int (nar .char ((((((p).toUInt32 >>> ((8 : Int32) &&& 31).toUInt32).toInt32) &&& (255 : Int32))).toUInt32.toUInt16.toUInt32.toInt32)))] (.int 0) := A227
  refine Wlk.newO (pc' := 28) (C := "java/lang/String") dc_method_2_code_25 (hw _ (List.mem_of_getElem? (i := 6) rfl)) (hw _ (List.mem_of_getElem? (i := 7) rfl)) (hw _ (List.mem_of_getElem? (i := 8) rfl)) (by decide) (by decide) rfl (fun b229 h230 le231 g232 E233 A234 D235 => ?_)
  have F236 : Fld Z h230 b229 "java/lang/String" "coder" "B" (.int (0 : Int32)) := D235 (Or.inr (hw _ (List.mem_of_getElem? (i := 32) rfl))) (ty := .byte) (by decide)
  have F237 : Fld Z h230 b229 "java/lang/String" "value" "[B" .null := D235 (Or.inr (hw _ (List.mem_of_getElem? (i := 34) rfl))) (ty := (.array .byte)) (by decide)
  refine Wlk.dup (pc' := 29) dc_method_2_code_28 rfl rfl ?_
  refine Wlk.aloadN (pc' := 30) (v := (.ref b213)) dc_method_2_code_29 rfl rfl rfl ?_
  have c238 := (A228.ext E233)
  have hL239 : ∀ c ∈ [(nar .char (((p &&& (255 : Int32))).toUInt32.toUInt16.toUInt32.toInt32)), (nar .char ((((((p).toUInt32 >>> ((8 : Int32) &&& 31).toUInt32).toInt32) &&& (255 : Int32))).toUInt32.toUInt16.toUInt32.toInt32))], ¬ (255 : Int32) < c := by
    intro c hc
    simp only [List.mem_cons, List.not_mem_nil, or_false] at hc
    rcases hc with rfl | rfl
    · exact own_c255 _
    · exact own_c255 _
  refine Wlk.callC (pc' := 33) (a := b229) (z := (⟨"java/lang/String", "<init>", "([C)V"⟩ : MethodName)) (argsL := [(.ref b213)]) (st := [(.ref b229)]) (W := 1) dc_method_2_code_30 (hw _ (List.mem_of_getElem? (i := 9) rfl)) (hw _ (List.mem_of_getElem? (i := 10) rfl)) (hw _ (List.mem_of_getElem? (i := 8) rfl)) (hw _ (List.mem_of_getElem? (i := 11) rfl)) (by decide) rfl pd_11 rfl (st_ini1 hw b229 b213 _ _ kc215 [(nar .char (((p &&& (255 : Int32))).toUInt32.toUInt16.toUInt32.toInt32)), (nar .char ((((((p).toUInt32 >>> ((8 : Int32) &&& 31).toUInt32).toInt32) &&& (255 : Int32))).toUInt32.toUInt16.toUInt32.toInt32))] _ h230 A234 F237 F236 g232 c238 (Nat.le_of_ble_eq_true rfl) (Nat.le_of_ble_eq_true rfl) hL239 zc O2 P3) (by decide) rfl (by decide) (by decide) (by decide) rfl rfl (fun v240 h241 J242 q243 => ?_)
  obtain ⟨rfl, K244, t245, le246, g247, S248⟩ := q243
  show Wlk _ _ _ _ _ _ _ _ _ h241 3 8 33 #[.val (.int p), .val (.ref b213)] [(.ref b229)]
  refine Wlk.areturn (t := (.object "java/lang/String")) dc_method_2_code_33 rfl rfl rfl rfl (by decide) (by decide) ?_
  exact ⟨b229, rfl, (Nat.le_trans (Nat.le_trans (Nat.le_trans E218.1 (Nat.le_of_eq W222.size.symm)) (Nat.le_of_eq W226.size.symm)) le231), g232, ((((((Keep.refl h0 []).ext E218).wr W222 (Or.inr (Nat.le_trans (Nat.le_refl _) le216))).wr W226 (Or.inr (Nat.le_trans (Nat.le_refl _) le216))).ext E233).trans K244 (allS (Or.inr (Nat.le_trans (Nat.le_trans (Nat.le_trans E218.1 (Nat.le_of_eq W222.size.symm)) (Nat.le_of_eq W226.size.symm)) le231)) all0)), S248.1⟩

set_option maxRecDepth 65536 in
set_option maxHeartbeats 40000000 in
theorem rm_rci {l : Launch} {Z : State} {a0 : Array Value} (hw : ∀ d ∈ tables_1, d.before a0 Z = true) (r : Addr) (h0 : Heap)  :
    Met l Z (⟨"java/lang/Record", "<init>", "()V"⟩ : MethodName) jdk_30_method_1_code 1 none false [] ({ frames := 1, cells := 0, slots := 0, locals := 12 } : Room) #[(.ref r)] h0 (false, [], []) (fun v h J' => v = none ∧ h0 = h) := by
  refine Met.of_goes (Ls := #[.val (.ref r)]) (by first | exact plainFor_of_name (by first | (simp [plainName, overriddenIn]; done) | decide +kernel) | decide +kernel) (fun m => by first | (simp [entryFrame, mkF, argsToLocals, Value.category]; done) | rfl) rfl (fun G hGl => ?_)
  subst hGl
  refine Wlk.aloadN (pc' := 1) (v := (.ref r)) dc_jdk_30_method_1_code_0 rfl rfl rfl ?_
  refine Wlk.initO (pc' := 4) (W := 0) dc_jdk_30_method_1_code_1 (hw _ (List.mem_of_getElem? (i := 105) rfl)) (hw _ (List.mem_of_getElem? (i := 17) rfl)) (hw _ (List.mem_of_getElem? (i := 18) rfl)) (by decide) rfl (by decide) rfl ?_
  refine Wlk.return_ dc_jdk_30_method_1_code_4 rfl (by decide) (by decide) ?_
  exact ⟨rfl, rfl⟩

set_option maxRecDepth 65536 in
set_option maxHeartbeats 40000000 in
theorem rm_rec {l : Launch} {Z : State} {a0 : Array Value} (hw : ∀ d ∈ tables_1, d.before a0 Z = true) (r : Addr) (p : Int32) (a : Addr) (u1 : Value) (u2 : Value) (h0 : Heap) (q0_E : Exa Z h0 r "com/example/fairgauge/fairgauge/io/CsvInput$Record") (q1_F : Fld Z h0 r "com/example/fairgauge/fairgauge/io/CsvInput$Record" "line" "I" u1) (q2_F : Fld Z h0 r "com/example/fairgauge/fairgauge/io/CsvInput$Record" "fields" "Ljava/util/List;" u2) (q3_G : Z.heap.size ≤ r) :
    Met l Z (⟨"com/example/fairgauge/fairgauge/io/CsvInput$Record", "<init>", "(ILjava/util/List;)V"⟩ : MethodName) prog_80_method_1_code 3 none false [] ({ frames := 2, cells := 0, slots := 0, locals := 24 } : Room) #[(.ref r), (.int p), (.ref a)] h0 (false, [], []) (fun v h J' => v = none ∧ Keep h0 h [r] ∧ Exa Z h r "com/example/fairgauge/fairgauge/io/CsvInput$Record" ∧ Fld Z h r "com/example/fairgauge/fairgauge/io/CsvInput$Record" "fields" "Ljava/util/List;" (.ref a)) := by
  refine Met.of_goes (Ls := #[.val (.ref r), .val (.int p), .val (.ref a)]) (by first | exact plainFor_of_name (by first | (simp [plainName, overriddenIn]; done) | decide +kernel) | decide +kernel) (fun m => by first | (simp [entryFrame, mkF, argsToLocals, Value.category]; done) | rfl) rfl (fun G hGl => ?_)
  subst hGl
  refine Wlk.aloadN (pc' := 1) (v := (.ref r)) dc_prog_80_method_1_code_0 rfl rfl rfl ?_
  refine Wlk.callC (pc' := 4) (a := r) (z := (⟨"java/lang/Record", "<init>", "()V"⟩ : MethodName)) (argsL := []) (st := []) (W := 0) dc_prog_80_method_1_code_1 (hw _ (List.mem_of_getElem? (i := 100) rfl)) (hw _ (List.mem_of_getElem? (i := 101) rfl)) (hw _ (List.mem_of_getElem? (i := 103) rfl)) (hw _ (List.mem_of_getElem? (i := 104) rfl)) (by decide) rfl pd_4 rfl (rm_rci hw r h0 ) (by decide) rfl (by decide) (by decide) (by decide) rfl rfl (fun v249 h250 J251 q252 => ?_)
  obtain ⟨rfl, rfl⟩ := q252
  show Wlk _ _ _ _ _ _ _ _ _ h0 0 0 4 #[.val (.ref r), .val (.int p), .val (.ref a)] []
  refine Wlk.aloadN (pc' := 5) (v := (.ref r)) dc_prog_80_method_1_code_4 rfl rfl rfl ?_
  refine Wlk.iloadN (pc' := 6) (v := p) dc_prog_80_method_1_code_5 rfl rfl ?_
  refine Wlk.putF (pc' := 9) (ty := .int) dc_prog_80_method_1_code_6 (hw _ (List.mem_of_getElem? (i := 106) rfl)) Via.refl q1_F q0_E (Or.inr ⟨(hw _ (List.mem_of_getElem? (i := 107) rfl)), rfl, rfl⟩) (hw _ (List.mem_of_getElem? (i := 95) rfl)) (by decide) rfl rfl q3_G rfl (fun h254 W253 => ?_)
  have F255 := q1_F.same W253
  refine Wlk.aloadN (pc' := 10) (v := (.ref r)) dc_prog_80_method_1_code_9 rfl rfl rfl ?_
  refine Wlk.aloadN (pc' := 11) (v := (.ref a)) dc_prog_80_method_1_code_10 rfl rfl rfl ?_
  have c256 := (q2_F.other W253 (Or.inr (slot_ne (Or.inr (hw _ (List.mem_of_getElem? (i := 109) rfl))) (Or.inr (hw _ (List.mem_of_getElem? (i := 107) rfl))) (by decide) (t := (.object "java/util/List")) (t' := .int) (by decide) (by decide))))
  have c257 := (q0_E.wr W253)
  refine Wlk.putF (pc' := 14) (ty := (.object "java/util/List")) dc_prog_80_method_1_code_11 (hw _ (List.mem_of_getElem? (i := 108) rfl)) Via.refl c256 c257 (Or.inr ⟨(hw _ (List.mem_of_getElem? (i := 109) rfl)), rfl, rfl⟩) (hw _ (List.mem_of_getElem? (i := 95) rfl)) (by decide) rfl rfl q3_G rfl (fun h259 W258 => ?_)
  have F260 := c256.same W258
  refine Wlk.return_ dc_prog_80_method_1_code_14 rfl (by decide) (by decide) ?_
  have c261 := (c257.wr W258)
  exact ⟨rfl, (((Keep.refl h0 [r]).wr W253 (Or.inl (List.mem_of_getElem? (i := 0) rfl))).wr W258 (Or.inl (List.mem_of_getElem? (i := 0) rfl))), c261, F260⟩

set_option maxRecDepth 65536 in
set_option maxHeartbeats 40000000 in
theorem rm_fld {l : Launch} {Z : State} {a0 : Array Value} (hw : ∀ d ∈ tables_1, d.before a0 Z = true) (r : Addr) (i : Int32) (a : Addr) (b : Addr) (kb : ClassId) (e : Addr) (vs : List Value) (n : Int32) (h0 : Heap) (q0_F : Fld Z h0 r "com/example/fairgauge/fairgauge/io/CsvInput$Record" "fields" "Ljava/util/List;" (.ref a)) (q1_E : Exa Z h0 a "java/util/ArrayList") (q2_F : Fld Z h0 a "java/util/ArrayList" "elementData" "[Ljava/lang/Object;" (.ref b)) (q3_F : Fld Z h0 a "java/util/ArrayList" "size" "I" (.int n)) (q4_A : Arv Z h0 b kb (.object "java/lang/Object") (10 : Int32) vs .null) (hin : i < n) (h0i : ¬ i < 0) (h10 : i < 10) (hel : vs.getD i.toNatClampNeg .null = .ref e) (q9_E : Exa Z h0 e "java/lang/String") :
    Met l Z (⟨"com/example/fairgauge/fairgauge/io/CsvInput$Record", "field", "(I)Ljava/lang/String;"⟩ : MethodName) prog_80_method_2_code 2 (some (.object "java/lang/String")) false [] ({ frames := 3, cells := 0, slots := 0, locals := 40 } : Room) #[(.ref r), (.int i)] h0 (false, [], []) (fun v h J' => v = some (.ref e) ∧ h0 = h) := by
  refine Met.of_goes (Ls := #[.val (.ref r), .val (.int i)]) (by first | exact plainFor_of_name (by first | (simp [plainName, overriddenIn]; done) | decide +kernel) | decide +kernel) (fun m => by first | (simp [entryFrame, mkF, argsToLocals, Value.category]; done) | rfl) rfl (fun G hGl => ?_)
  subst hGl
  refine Wlk.aloadN (pc' := 1) (v := (.ref r)) dc_prog_80_method_2_code_0 rfl rfl rfl ?_
  refine Wlk.getF (pc' := 4) (v := (.ref a)) dc_prog_80_method_2_code_1 (hw _ (List.mem_of_getElem? (i := 108) rfl)) Via.refl q0_F rfl ?_
  refine Wlk.iloadN (pc' := 5) (v := i) dc_prog_80_method_2_code_4 rfl rfl ?_
  refine Wlk.callI (pc' := 10) (a := a) (x := (⟨"java/util/List", "get", "(I)Ljava/lang/Object;"⟩ : MethodName)) (C := "java/util/ArrayList") (z := (⟨"java/util/ArrayList", "get", "(I)Ljava/lang/Object;"⟩ : MethodName)) (argsL := [(.int i)]) (st := []) (W := 0) dc_prog_80_method_2_code_5 (hw _ (List.mem_of_getElem? (i := 115) rfl)) (hw _ (List.mem_of_getElem? (i := 116) rfl)) (fun s q => mvT q (hw _ (List.mem_of_getElem? (i := 117) rfl))) (hw _ (List.mem_of_getElem? (i := 118) rfl)) (hw _ (List.mem_of_getElem? (i := 119) rfl)) (hw _ (List.mem_of_getElem? (i := 120) rfl)) (hw _ (List.mem_of_getElem? (i := 121) rfl)) (hw _ (List.mem_of_getElem? (i := 66) rfl)) q1_E (hw _ (List.mem_of_getElem? (i := 37) rfl)) (hw _ (List.mem_of_getElem? (i := 122) rfl)) (by decide) pd_10 rfl (al_get hw a i b kb e vs n h0 q1_E q2_F q3_F q4_A hin h0i h10 hel) (by decide) rfl (by decide) (by decide) (by decide) rfl rfl (fun v262 h263 J264 q265 => ?_)
  obtain ⟨rfl, rfl⟩ := q265
  show Wlk _ _ _ _ _ _ _ _ _ h0 0 0 10 #[.val (.ref r), .val (.int i)] [(.ref e)]
  refine Wlk.castY (pc' := 13) dc_prog_80_method_2_code_10 (hw _ (List.mem_of_getElem? (i := 136) rfl)) (Ins.self q9_E) rfl ?_
  refine Wlk.areturn (t := (.object "java/lang/String")) dc_prog_80_method_2_code_13 rfl rfl rfl rfl (by decide) (by decide) ?_
  exact ⟨rfl, rfl⟩

set_option maxRecDepth 65536 in
set_option maxHeartbeats 40000000 in
theorem rm_law {l : Launch} {Z : State} {a0 : Array Value} (hw : ∀ d ∈ tables_1, d.before a0 Z = true) (ws : List Jvm.Cond) (p1 p2 p3 p4 p5 : Int32) (h0 : Heap) (zc : Int32) (O2 : Sta Z Z.heap "java/lang/String" "COMPACT_STRINGS" "Z" (.int zc)) (P3 : ¬ zc = 0) (de : Addr) (kd : ClassId) (SD : Sta Z Z.heap "java/util/ArrayList" "DEFAULTCAPACITY_EMPTY_ELEMENTDATA" "[Ljava/lang/Object;" (.ref de)) (D0 : Arv Z Z.heap de kd (.object "java/lang/Object") 0 [] .null) :
    Met l Z x code maxLocals ret false ws room_1 #[(.int p1), (.int p2), (.int p3), (.int p4), (.int p5)] h0 (false, [], []) (fun v h J => v = some (.int 1)) := by
  refine Met.of_goes (Ls := #[.val (.int p1), .val (.int p2), .val (.int p3), .val (.int p4), .val (.int p5), .unset, .unset, .unset, .unset, .unset, .unset, .unset, .unset, .unset]) (by first | exact plainFor_of_name (by first | (simp [plainName, overriddenIn]; done) | decide +kernel) | decide +kernel) (fun m => by first | (simp [entryFrame, mkF, argsToLocals, Value.category, maxLocals]; done) | rfl) rfl (fun G hGl => ?_)
  subst hGl
  refine Wlk.iloadN (pc' := 1) (v := p2) at_0 rfl rfl ?_
  refine Wlk.ldcI (pc' := 3) (v := (2147483647 : Int32)) at_1 (hw _ (List.mem_of_getElem? (i := 0) rfl)) rfl ?_
  refine Wlk.iand (pc' := 4) at_3 rfl ?_
  refine Wlk.iconst (pc' := 5) (v := (3 : Int32)) at_4 rfl rfl ?_
  refine Wlk.irem (pc' := 6) at_5 (by decide) rfl ?_
  obtain ⟨r, e_r⟩ : ∃ z, z = ((p2 &&& (2147483647 : Int32)) % (3 : Int32)) := ⟨_, rfl⟩
  rw [← e_r]
  rcases own_lt3 (e_r ▸ own_mod p2 3 3 (by decide) (by decide)) with rfl | rfl | rfl
  · skip
    refine Wlk.iconst (pc' := 7) (v := (1 : Int32)) at_6 rfl rfl ?_
    refine Wlk.iadd (pc' := 8) at_7 rfl ?_
    show Wlk _ _ _ _ _ _ _ _ _ _ _ _ _ _ [(.int (1 : Int32))]
    refine Wlk.istore (pc' := 10) (Ls' := #[.val (.int p1), .val (.int p2), .val (.int p3), .val (.int p4), .val (.int p5), .val (.int (1 : Int32)), .unset, .unset, .unset, .unset, .unset, .unset, .unset, .unset]) at_8 rfl rfl rfl ?_
    refine Wlk.iloadN (pc' := 11) (v := p3) at_10 rfl rfl ?_
    refine Wlk.ldcI (pc' := 13) (v := (2147483647 : Int32)) at_11 (hw _ (List.mem_of_getElem? (i := 0) rfl)) rfl ?_
    refine Wlk.iand (pc' := 14) at_13 rfl ?_
    refine Wlk.iload (pc' := 16) (v := (1 : Int32)) at_14 rfl rfl ?_
    refine Wlk.irem (pc' := 17) at_16 (by decide) rfl ?_
    obtain ⟨c, e_c⟩ : ∃ z, z = ((p3 &&& (2147483647 : Int32)) % (1 : Int32)) := ⟨_, rfl⟩
    rw [← e_c]
    obtain rfl := own_lt1 (e_c ▸ own_mod p3 1 1 (by decide) (by decide))
    refine Wlk.istore (pc' := 19) (Ls' := #[.val (.int p1), .val (.int p2), .val (.int p3), .val (.int p4), .val (.int p5), .val (.int (1 : Int32)), .val (.int (0 : Int32)), .unset, .unset, .unset, .unset, .unset, .unset, .unset]) at_17 rfl rfl rfl ?_
    refine Wlk.iloadN (pc' := 20) (v := p4) at_19 rfl rfl ?_
    refine Wlk.callS (pc' := 23) (z := (⟨"com/example/fairgauge/fairgauge/io/RecordFieldPinLaw", "drawn", "(I)Ljava/lang/String;"⟩ : MethodName)) (argsL := [(.int p4)]) (st := []) (W := 0) at_20 (hw _ (List.mem_of_getElem? (i := 1) rfl)) (hw _ (List.mem_of_getElem? (i := 2) rfl)) (hw _ (List.mem_of_getElem? (i := 3) rfl)) (hw _ (List.mem_of_getElem? (i := 4) rfl)) (by decide) pd_12 rfl (rm_drawn hw p4 zc h0 O2 P3) (by decide) rfl (by decide) (by decide) (by decide) rfl rfl (fun v266 h267 J268 q269 => ?_)
    obtain ⟨s270, rfl, le271, g272, K273, n274⟩ := q269
    show Wlk _ _ _ _ _ _ _ _ _ h267 3 8 23 #[.val (.int p1), .val (.int p2), .val (.int p3), .val (.int p4), .val (.int p5), .val (.int (1 : Int32)), .val (.int (0 : Int32)), .unset, .unset, .unset, .unset, .unset, .unset, .unset] [(.ref s270)]
    refine Wlk.astore (pc' := 25) (Ls' := #[.val (.int p1), .val (.int p2), .val (.int p3), .val (.int p4), .val (.int p5), .val (.int (1 : Int32)), .val (.int (0 : Int32)), .val (.ref s270), .unset, .unset, .unset, .unset, .unset, .unset]) at_23 rfl rfl rfl rfl ?_
    refine Wlk.iloadN (pc' := 26) (v := p4) at_25 rfl rfl ?_
    refine Wlk.bipush (pc' := 28) (v := (16 : Int32)) at_26 (by decide) rfl ?_
    refine Wlk.iushr (pc' := 29) at_28 rfl ?_
    refine Wlk.callS (pc' := 32) (z := (⟨"com/example/fairgauge/fairgauge/io/RecordFieldPinLaw", "drawn", "(I)Ljava/lang/String;"⟩ : MethodName)) (argsL := [(.int (((p4).toUInt32 >>> ((16 : Int32) &&& 31).toUInt32).toInt32))]) (st := []) (W := 0) at_29 (hw _ (List.mem_of_getElem? (i := 1) rfl)) (hw _ (List.mem_of_getElem? (i := 2) rfl)) (hw _ (List.mem_of_getElem? (i := 3) rfl)) (hw _ (List.mem_of_getElem? (i := 4) rfl)) (by decide) pd_12 rfl (rm_drawn hw (((p4).toUInt32 >>> ((16 : Int32) &&& 31).toUInt32).toInt32) zc h267 O2 P3) (by decide) rfl (by decide) (by decide) (by decide) rfl rfl (fun v275 h276 J277 q278 => ?_)
    obtain ⟨s279, rfl, le280, g281, K282, n283⟩ := q278
    show Wlk _ _ _ _ _ _ _ _ _ h276 6 16 32 #[.val (.int p1), .val (.int p2), .val (.int p3), .val (.int p4), .val (.int p5), .val (.int (1 : Int32)), .val (.int (0 : Int32)), .val (.ref s270), .unset, .unset, .unset, .unset, .unset, .unset] [(.ref s279)]
    refine Wlk.astore (pc' := 34) (Ls' := #[.val (.int p1), .val (.int p2), .val (.int p3), .val (.int p4), .val (.int p5), .val (.int (1 : Int32)), .val (.int (0 : Int32)), .val (.ref s270), .val (.ref s279), .unset, .unset, .unset, .unset, .unset]) at_32 rfl rfl rfl rfl ?_
    refine Wlk.iload (pc' := 36) (v := p5) at_34 rfl rfl ?_
    refine Wlk.callS (pc' := 39) (z := (⟨"com/example/fairgauge/fairgauge/io/RecordFieldPinLaw", "drawn", "(I)Ljava/lang/String;"⟩ : MethodName)) (argsL := [(.int p5)]) (st := []) (W := 0) at_36 (hw _ (List.mem_of_getElem? (i := 1) rfl)) (hw _ (List.mem_of_getElem? (i := 2) rfl)) (hw _ (List.mem_of_getElem? (i := 3) rfl)) (hw _ (List.mem_of_getElem? (i := 4) rfl)) (by decide) pd_12 rfl (rm_drawn hw p5 zc h276 O2 P3) (by decide) rfl (by decide) (by decide) (by decide) rfl rfl (fun v284 h285 J286 q287 => ?_)
    obtain ⟨s288, rfl, le289, g290, K291, n292⟩ := q287
    show Wlk _ _ _ _ _ _ _ _ _ h285 9 24 39 #[.val (.int p1), .val (.int p2), .val (.int p3), .val (.int p4), .val (.int p5), .val (.int (1 : Int32)), .val (.int (0 : Int32)), .val (.ref s270), .val (.ref s279), .unset, .unset, .unset, .unset, .unset] [(.ref s288)]
    refine Wlk.astore (pc' := 41) (Ls' := #[.val (.int p1), .val (.int p2), .val (.int p3), .val (.int p4), .val (.int p5), .val (.int (1 : Int32)), .val (.int (0 : Int32)), .val (.ref s270), .val (.ref s279), .val (.ref s288), .unset, .unset, .unset, .unset]) at_39 rfl rfl rfl rfl ?_
    refine Wlk.newO (pc' := 44) (C := "java/util/ArrayList") at_41 (hw _ (List.mem_of_getElem? (i := 35) rfl)) (hw _ (List.mem_of_getElem? (i := 36) rfl)) (hw _ (List.mem_of_getElem? (i := 37) rfl)) (by decide) (by decide) rfl (fun b293 h294 le295 g296 E297 A298 D299 => ?_)
    have F300 : Fld Z h294 b293 "java/util/AbstractList" "modCount" "I" (.int (0 : Int32)) := D299 (Or.inl (hw _ (List.mem_of_getElem? (i := 55) rfl))) (ty := .int) (by decide)
    have F301 : Fld Z h294 b293 "java/util/ArrayList" "elementData" "[Ljava/lang/Object;" .null := D299 (Or.inl (hw _ (List.mem_of_getElem? (i := 58) rfl))) (ty := (.array (.object "java/lang/Object"))) (by decide)
    have F302 : Fld Z h294 b293 "java/util/ArrayList" "size" "I" (.int (0 : Int32)) := D299 (Or.inl (hw _ (List.mem_of_getElem? (i := 71) rfl))) (ty := .int) (by decide)
    refine Wlk.dup (pc' := 45) at_44 rfl rfl ?_
    refine Wlk.callC (pc' := 48) (a := b293) (z := (⟨"java/util/ArrayList", "<init>", "()V"⟩ : MethodName)) (argsL := []) (st := [(.ref b293)]) (W := 1) at_45 (hw _ (List.mem_of_getElem? (i := 38) rfl)) (hw _ (List.mem_of_getElem? (i := 39) rfl)) (hw _ (List.mem_of_getElem? (i := 37) rfl)) (hw _ (List.mem_of_getElem? (i := 40) rfl)) (by decide) rfl pd_4 rfl (al_init hw b293 .null (0 : Int32) (0 : Int32) de h294 A298 F300 F301 F302 g296 SD) (by decide) rfl (by decide) (by decide) (by decide) rfl rfl (fun v303 h304 J305 q306 => ?_)
    obtain ⟨rfl, K307, n308, n309, n310, n311⟩ := q306
    show Wlk _ _ _ _ _ _ _ _ _ h304 10 27 48 #[.val (.int p1), .val (.int p2), .val (.int p3), .val (.int p4), .val (.int p5), .val (.int (1 : Int32)), .val (.int (0 : Int32)), .val (.ref s270), .val (.ref s279), .val (.ref s288), .unset, .unset, .unset, .unset] [(.ref b293)]
    refine Wlk.astore (pc' := 50) (Ls' := #[.val (.int p1), .val (.int p2), .val (.int p3), .val (.int p4), .val (.int p5), .val (.int (1 : Int32)), .val (.int (0 : Int32)), .val (.ref s270), .val (.ref s279), .val (.ref s288), .val (.ref b293), .unset, .unset, .unset]) at_48 rfl rfl rfl rfl ?_
    refine Wlk.aload (pc' := 52) (v := (.ref b293)) at_50 rfl rfl rfl ?_
    refine Wlk.aload (pc' := 54) (v := (.ref s270)) at_52 rfl rfl rfl ?_
    have c312 := ((((n274.keep K282).keep K291).ext E297).keep K307)
    refine Wlk.callI (pc' := 59) (a := b293) (x := (⟨"java/util/List", "add", "(Ljava/lang/Object;)Z"⟩ : MethodName)) (C := "java/util/ArrayList") (z := (⟨"java/util/ArrayList", "add", "(Ljava/lang/Object;)Z"⟩ : MethodName)) (argsL := [(.ref s270)]) (st := []) (W := 0) at_54 (hw _ (List.mem_of_getElem? (i := 59) rfl)) (hw _ (List.mem_of_getElem? (i := 60) rfl)) (fun s q => mvT q (hw _ (List.mem_of_getElem? (i := 61) rfl))) (hw _ (List.mem_of_getElem? (i := 62) rfl)) (hw _ (List.mem_of_getElem? (i := 63) rfl)) (hw _ (List.mem_of_getElem? (i := 64) rfl)) (hw _ (List.mem_of_getElem? (i := 65) rfl)) (hw _ (List.mem_of_getElem? (i := 66) rfl)) n308 (hw _ (List.mem_of_getElem? (i := 37) rfl)) (hw _ (List.mem_of_getElem? (i := 67) rfl)) (by decide) pd_13 rfl (al_add1 hw s270 b293 (0 : Int32) de _ h304 n308 n309 n310 n311 g296 SD D0 c312) (by decide) rfl (by decide) (by decide) (by decide) rfl rfl (fun v313 h314 J315 q316 => ?_)
    obtain ⟨b317, kb318, rfl, le319, g320, K321, n322, n323, n324, n325, n326, n327⟩ := q316
    show Wlk _ _ _ _ _ _ _ _ _ h314 11 37 59 #[.val (.int p1), .val (.int p2), .val (.int p3), .val (.int p4), .val (.int p5), .val (.int (1 : Int32)), .val (.int (0 : Int32)), .val (.ref s270), .val (.ref s279), .val (.ref s288), .val (.ref b293), .unset, .unset, .unset] [(.int (1 : Int32))]
    have A328 : Arv Z h314 b317 kb318 (.object "java/lang/Object") (10 : Int32) [(.ref s270), .null, .null, .null, .null, .null, .null, .null, .null, .null] .null := n326
    have F329 : Fld Z h314 b293 "java/util/ArrayList" "size" "I" (.int (1 : Int32)) := n325
    refine Wlk.pop (pc' := 60) at_59 rfl rfl ?_
    refine Wlk.iload (pc' := 62) (v := (1 : Int32)) at_60 rfl rfl ?_
    refine Wlk.iconst (pc' := 63) (v := (2 : Int32)) at_62 rfl rfl ?_
    refine Wlk.icT (pc' := 76) at_63 (by decide) (by decide) (show (1 : Int32) < (2 : Int32) from by decide) ?_
    refine Wlk.iload (pc' := 78) (v := (1 : Int32)) at_76 rfl rfl ?_
    refine Wlk.iconst (pc' := 79) (v := (3 : Int32)) at_78 rfl rfl ?_
    refine Wlk.icT (pc' := 92) at_79 (by decide) (by decide) (show (1 : Int32) < (3 : Int32) from by decide) ?_
    refine Wlk.newO (pc' := 95) (C := "com/example/fairgauge/fairgauge/io/CsvInput$Record") at_92 (hw _ (List.mem_of_getElem? (i := 94) rfl)) (hw _ (List.mem_of_getElem? (i := 95) rfl)) (hw _ (List.mem_of_getElem? (i := 96) rfl)) (by decide) (by decide) rfl (fun b330 h331 le332 g333 E334 A335 D336 => ?_)
    have F337 : Fld Z h331 b330 "com/example/fairgauge/fairgauge/io/CsvInput$Record" "line" "I" (.int (0 : Int32)) := D336 (Or.inr (hw _ (List.mem_of_getElem? (i := 107) rfl))) (ty := .int) (by decide)
    have F338 : Fld Z h331 b330 "com/example/fairgauge/fairgauge/io/CsvInput$Record" "fields" "Ljava/util/List;" .null := D336 (Or.inr (hw _ (List.mem_of_getElem? (i := 109) rfl))) (ty := (.object "java/util/List")) (by decide)
    refine Wlk.dup (pc' := 96) at_95 rfl rfl ?_
    refine Wlk.iloadN (pc' := 97) (v := p1) at_96 rfl rfl ?_
    refine Wlk.aload (pc' := 99) (v := (.ref b293)) at_97 rfl rfl rfl ?_
    refine Wlk.callC (pc' := 102) (a := b330) (z := (⟨"com/example/fairgauge/fairgauge/io/CsvInput$Record", "<init>", "(ILjava/util/List;)V"⟩ : MethodName)) (argsL := [(.int p1), (.ref b293)]) (st := [(.ref b330)]) (W := 1) at_99 (hw _ (List.mem_of_getElem? (i := 97) rfl)) (hw _ (List.mem_of_getElem? (i := 98) rfl)) (hw _ (List.mem_of_getElem? (i := 96) rfl)) (hw _ (List.mem_of_getElem? (i := 99) rfl)) (by decide) rfl pd_14 rfl (rm_rec hw b330 p1 b293 (.int (0 : Int32)) .null h331 A335 F337 F338 g333) (by decide) rfl (by decide) (by decide) (by decide) rfl rfl (fun v339 h340 J341 q342 => ?_)
    obtain ⟨rfl, K343, n344, n345⟩ := q342
    show Wlk _ _ _ _ _ _ _ _ _ h340 12 39 102 #[.val (.int p1), .val (.int p2), .val (.int p3), .val (.int p4), .val (.int p5), .val (.int (1 : Int32)), .val (.int (0 : Int32)), .val (.ref s270), .val (.ref s279), .val (.ref s288), .val (.ref b293), .unset, .unset, .unset] [(.ref b330)]
    refine Wlk.astore (pc' := 104) (Ls' := #[.val (.int p1), .val (.int p2), .val (.int p3), .val (.int p4), .val (.int p5), .val (.int (1 : Int32)), .val (.int (0 : Int32)), .val (.ref s270), .val (.ref s279), .val (.ref s288), .val (.ref b293), .val (.ref b330), .unset, .unset]) at_102 rfl rfl rfl rfl ?_
    refine Wlk.iload (pc' := 106) (v := (0 : Int32)) at_104 rfl rfl ?_
    refine Wlk.ifF (pc' := 109) at_106 (show (0 : Int32) = (0 : Int32) from by decide) rfl ?_
    refine Wlk.aload (pc' := 111) (v := (.ref s270)) at_109 rfl rfl rfl ?_
    refine Wlk.astore (pc' := 113) (Ls' := #[.val (.int p1), .val (.int p2), .val (.int p3), .val (.int p4), .val (.int p5), .val (.int (1 : Int32)), .val (.int (0 : Int32)), .val (.ref s270), .val (.ref s279), .val (.ref s288), .val (.ref b293), .val (.ref b330), .val (.ref s270), .unset]) at_111 rfl rfl rfl rfl ?_
    refine Wlk.goto (pc' := 133) at_113 (by decide) (by decide) ?_
    refine Wlk.aload (pc' := 135) (v := (.ref b330)) at_133 rfl rfl rfl ?_
    refine Wlk.iload (pc' := 137) (v := (0 : Int32)) at_135 rfl rfl ?_
    have c346 := ((n322.ext E334).keep K343)
    have c347 := ((n324.ext E334).keep K343 (ninS (Nat.ne_of_lt (Nat.lt_of_lt_of_le A298.lt (Nat.le_trans (Nat.le_trans K307.1 K321.1) le332))) nin0))
    have c348 := ((F329.ext E334).keep K343 (ninS (Nat.ne_of_lt (Nat.lt_of_lt_of_le A298.lt (Nat.le_trans (Nat.le_trans K307.1 K321.1) le332))) nin0))
    have c349 := ((A328.ext E334).keep K343 (ninS (Nat.ne_of_lt (Nat.lt_of_lt_of_le n326.lt (Nat.le_trans (Nat.le_refl _) le332))) nin0))
    have c350 := (((c312.keep K321).ext E334).keep K343)
    refine Wlk.callV (pc' := 140) (a := b330) (x := (⟨"com/example/fairgauge/fairgauge/io/CsvInput$Record", "field", "(I)Ljava/lang/String;"⟩ : MethodName)) (C := "com/example/fairgauge/fairgauge/io/CsvInput$Record") (z := (⟨"com/example/fairgauge/fairgauge/io/CsvInput$Record", "field", "(I)Ljava/lang/String;"⟩ : MethodName)) (argsL := [(.int (0 : Int32))]) (st := []) (W := 0) at_137 (hw _ (List.mem_of_getElem? (i := 110) rfl)) (hw _ (List.mem_of_getElem? (i := 111) rfl)) (fun s q => notFace_of_selects (args := #[]) (mvT q (hw _ (List.mem_of_getElem? (i := 113) rfl)))) (hw _ (List.mem_of_getElem? (i := 113) rfl)) (hw _ (List.mem_of_getElem? (i := 112) rfl)) n344 (hw _ (List.mem_of_getElem? (i := 96) rfl)) (hw _ (List.mem_of_getElem? (i := 114) rfl)) (by decide) pd_12 rfl (rm_fld hw b330 (0 : Int32) b293 b317 kb318 s270 [(.ref s270), .null, .null, .null, .null, .null, .null, .null, .null, .null] (1 : Int32) h340 n345 c346 c347 c348 c349 (by decide) (by decide) (by decide) rfl c350) (by decide) rfl (by decide) (by decide) (by decide) rfl rfl (fun v351 h352 J353 q354 => ?_)
    obtain ⟨rfl, rfl⟩ := q354
    show Wlk _ _ _ _ _ _ _ _ _ h340 12 39 140 #[.val (.int p1), .val (.int p2), .val (.int p3), .val (.int p4), .val (.int p5), .val (.int (1 : Int32)), .val (.int (0 : Int32)), .val (.ref s270), .val (.ref s279), .val (.ref s288), .val (.ref b293), .val (.ref b330), .val (.ref s270), .unset] [(.ref s270)]
    refine Wlk.astore (pc' := 142) (Ls' := #[.val (.int p1), .val (.int p2), .val (.int p3), .val (.int p4), .val (.int p5), .val (.int (1 : Int32)), .val (.int (0 : Int32)), .val (.ref s270), .val (.ref s279), .val (.ref s288), .val (.ref b293), .val (.ref b330), .val (.ref s270), .val (.ref s270)]) at_140 rfl rfl rfl rfl ?_
    refine Wlk.aload (pc' := 144) (v := (.ref s270)) at_142 rfl rfl rfl ?_
    refine Wlk.aload (pc' := 146) (v := (.ref s270)) at_144 rfl rfl rfl ?_
    refine Wlk.acmp (pc' := 149) (same := true) at_146 rfl rfl (decide_eq_true rfl) (by decide) (by decide) ?_
    refine Wlk.iconst (pc' := 150) (v := (1 : Int32)) at_149 rfl rfl ?_
    refine Wlk.goto (pc' := 154) at_150 (by decide) (by decide) ?_
    refine Wlk.ireturnN (t := .boolean) at_154 rfl (by simp) (by decide) (by decide) ?_
    exact rfl
  · skip
    refine Wlk.iconst (pc' := 7) (v := (1 : Int32)) at_6 rfl rfl ?_
    refine Wlk.iadd (pc' := 8) at_7 rfl ?_
    show Wlk _ _ _ _ _ _ _ _ _ _ _ _ _ _ [(.int (2 : Int32))]
    refine Wlk.istore (pc' := 10) (Ls' := #[.val (.int p1), .val (.int p2), .val (.int p3), .val (.int p4), .val (.int p5), .val (.int (2 : Int32)), .unset, .unset, .unset, .unset, .unset, .unset, .unset, .unset]) at_8 rfl rfl rfl ?_
    refine Wlk.iloadN (pc' := 11) (v := p3) at_10 rfl rfl ?_
    refine Wlk.ldcI (pc' := 13) (v := (2147483647 : Int32)) at_11 (hw _ (List.mem_of_getElem? (i := 0) rfl)) rfl ?_
    refine Wlk.iand (pc' := 14) at_13 rfl ?_
    refine Wlk.iload (pc' := 16) (v := (2 : Int32)) at_14 rfl rfl ?_
    refine Wlk.irem (pc' := 17) at_16 (by decide) rfl ?_
    obtain ⟨c, e_c⟩ : ∃ z, z = ((p3 &&& (2147483647 : Int32)) % (2 : Int32)) := ⟨_, rfl⟩
    rw [← e_c]
    rcases own_lt2 (e_c ▸ own_mod p3 2 2 (by decide) (by decide)) with rfl | rfl
    · skip
      refine Wlk.istore (pc' := 19) (Ls' := #[.val (.int p1), .val (.int p2), .val (.int p3), .val (.int p4), .val (.int p5), .val (.int (2 : Int32)), .val (.int (0 : Int32)), .unset, .unset, .unset, .unset, .unset, .unset, .unset]) at_17 rfl rfl rfl ?_
      refine Wlk.iloadN (pc' := 20) (v := p4) at_19 rfl rfl ?_
      refine Wlk.callS (pc' := 23) (z := (⟨"com/example/fairgauge/fairgauge/io/RecordFieldPinLaw", "drawn", "(I)Ljava/lang/String;"⟩ : MethodName)) (argsL := [(.int p4)]) (st := []) (W := 0) at_20 (hw _ (List.mem_of_getElem? (i := 1) rfl)) (hw _ (List.mem_of_getElem? (i := 2) rfl)) (hw _ (List.mem_of_getElem? (i := 3) rfl)) (hw _ (List.mem_of_getElem? (i := 4) rfl)) (by decide) pd_12 rfl (rm_drawn hw p4 zc h0 O2 P3) (by decide) rfl (by decide) (by decide) (by decide) rfl rfl (fun v355 h356 J357 q358 => ?_)
      obtain ⟨s359, rfl, le360, g361, K362, n363⟩ := q358
      show Wlk _ _ _ _ _ _ _ _ _ h356 3 8 23 #[.val (.int p1), .val (.int p2), .val (.int p3), .val (.int p4), .val (.int p5), .val (.int (2 : Int32)), .val (.int (0 : Int32)), .unset, .unset, .unset, .unset, .unset, .unset, .unset] [(.ref s359)]
      refine Wlk.astore (pc' := 25) (Ls' := #[.val (.int p1), .val (.int p2), .val (.int p3), .val (.int p4), .val (.int p5), .val (.int (2 : Int32)), .val (.int (0 : Int32)), .val (.ref s359), .unset, .unset, .unset, .unset, .unset, .unset]) at_23 rfl rfl rfl rfl ?_
      refine Wlk.iloadN (pc' := 26) (v := p4) at_25 rfl rfl ?_
      refine Wlk.bipush (pc' := 28) (v := (16 : Int32)) at_26 (by decide) rfl ?_
      refine Wlk.iushr (pc' := 29) at_28 rfl ?_
      refine Wlk.callS (pc' := 32) (z := (⟨"com/example/fairgauge/fairgauge/io/RecordFieldPinLaw", "drawn", "(I)Ljava/lang/String;"⟩ : MethodName)) (argsL := [(.int (((p4).toUInt32 >>> ((16 : Int32) &&& 31).toUInt32).toInt32))]) (st := []) (W := 0) at_29 (hw _ (List.mem_of_getElem? (i := 1) rfl)) (hw _ (List.mem_of_getElem? (i := 2) rfl)) (hw _ (List.mem_of_getElem? (i := 3) rfl)) (hw _ (List.mem_of_getElem? (i := 4) rfl)) (by decide) pd_12 rfl (rm_drawn hw (((p4).toUInt32 >>> ((16 : Int32) &&& 31).toUInt32).toInt32) zc h356 O2 P3) (by decide) rfl (by decide) (by decide) (by decide) rfl rfl (fun v364 h365 J366 q367 => ?_)
      obtain ⟨s368, rfl, le369, g370, K371, n372⟩ := q367
      show Wlk _ _ _ _ _ _ _ _ _ h365 6 16 32 #[.val (.int p1), .val (.int p2), .val (.int p3), .val (.int p4), .val (.int p5), .val (.int (2 : Int32)), .val (.int (0 : Int32)), .val (.ref s359), .unset, .unset, .unset, .unset, .unset, .unset] [(.ref s368)]
      refine Wlk.astore (pc' := 34) (Ls' := #[.val (.int p1), .val (.int p2), .val (.int p3), .val (.int p4), .val (.int p5), .val (.int (2 : Int32)), .val (.int (0 : Int32)), .val (.ref s359), .val (.ref s368), .unset, .unset, .unset, .unset, .unset]) at_32 rfl rfl rfl rfl ?_
      refine Wlk.iload (pc' := 36) (v := p5) at_34 rfl rfl ?_
      refine Wlk.callS (pc' := 39) (z := (⟨"com/example/fairgauge/fairgauge/io/RecordFieldPinLaw", "drawn", "(I)Ljava/lang/String;"⟩ : MethodName)) (argsL := [(.int p5)]) (st := []) (W := 0) at_36 (hw _ (List.mem_of_getElem? (i := 1) rfl)) (hw _ (List.mem_of_getElem? (i := 2) rfl)) (hw _ (List.mem_of_getElem? (i := 3) rfl)) (hw _ (List.mem_of_getElem? (i := 4) rfl)) (by decide) pd_12 rfl (rm_drawn hw p5 zc h365 O2 P3) (by decide) rfl (by decide) (by decide) (by decide) rfl rfl (fun v373 h374 J375 q376 => ?_)
      obtain ⟨s377, rfl, le378, g379, K380, n381⟩ := q376
      show Wlk _ _ _ _ _ _ _ _ _ h374 9 24 39 #[.val (.int p1), .val (.int p2), .val (.int p3), .val (.int p4), .val (.int p5), .val (.int (2 : Int32)), .val (.int (0 : Int32)), .val (.ref s359), .val (.ref s368), .unset, .unset, .unset, .unset, .unset] [(.ref s377)]
      refine Wlk.astore (pc' := 41) (Ls' := #[.val (.int p1), .val (.int p2), .val (.int p3), .val (.int p4), .val (.int p5), .val (.int (2 : Int32)), .val (.int (0 : Int32)), .val (.ref s359), .val (.ref s368), .val (.ref s377), .unset, .unset, .unset, .unset]) at_39 rfl rfl rfl rfl ?_
      refine Wlk.newO (pc' := 44) (C := "java/util/ArrayList") at_41 (hw _ (List.mem_of_getElem? (i := 35) rfl)) (hw _ (List.mem_of_getElem? (i := 36) rfl)) (hw _ (List.mem_of_getElem? (i := 37) rfl)) (by decide) (by decide) rfl (fun b382 h383 le384 g385 E386 A387 D388 => ?_)
      have F389 : Fld Z h383 b382 "java/util/AbstractList" "modCount" "I" (.int (0 : Int32)) := D388 (Or.inl (hw _ (List.mem_of_getElem? (i := 55) rfl))) (ty := .int) (by decide)
      have F390 : Fld Z h383 b382 "java/util/ArrayList" "elementData" "[Ljava/lang/Object;" .null := D388 (Or.inl (hw _ (List.mem_of_getElem? (i := 58) rfl))) (ty := (.array (.object "java/lang/Object"))) (by decide)
      have F391 : Fld Z h383 b382 "java/util/ArrayList" "size" "I" (.int (0 : Int32)) := D388 (Or.inl (hw _ (List.mem_of_getElem? (i := 71) rfl))) (ty := .int) (by decide)
      refine Wlk.dup (pc' := 45) at_44 rfl rfl ?_
      refine Wlk.callC (pc' := 48) (a := b382) (z := (⟨"java/util/ArrayList", "<init>", "()V"⟩ : MethodName)) (argsL := []) (st := [(.ref b382)]) (W := 1) at_45 (hw _ (List.mem_of_getElem? (i := 38) rfl)) (hw _ (List.mem_of_getElem? (i := 39) rfl)) (hw _ (List.mem_of_getElem? (i := 37) rfl)) (hw _ (List.mem_of_getElem? (i := 40) rfl)) (by decide) rfl pd_4 rfl (al_init hw b382 .null (0 : Int32) (0 : Int32) de h383 A387 F389 F390 F391 g385 SD) (by decide) rfl (by decide) (by decide) (by decide) rfl rfl (fun v392 h393 J394 q395 => ?_)
      obtain ⟨rfl, K396, n397, n398, n399, n400⟩ := q395
      show Wlk _ _ _ _ _ _ _ _ _ h393 10 27 48 #[.val (.int p1), .val (.int p2), .val (.int p3), .val (.int p4), .val (.int p5), .val (.int (2 : Int32)), .val (.int (0 : Int32)), .val (.ref s359), .val (.ref s368), .val (.ref s377), .unset, .unset, .unset, .unset] [(.ref b382)]
      refine Wlk.astore (pc' := 50) (Ls' := #[.val (.int p1), .val (.int p2), .val (.int p3), .val (.int p4), .val (.int p5), .val (.int (2 : Int32)), .val (.int (0 : Int32)), .val (.ref s359), .val (.ref s368), .val (.ref s377), .val (.ref b382), .unset, .unset, .unset]) at_48 rfl rfl rfl rfl ?_
      refine Wlk.aload (pc' := 52) (v := (.ref b382)) at_50 rfl rfl rfl ?_
      refine Wlk.aload (pc' := 54) (v := (.ref s359)) at_52 rfl rfl rfl ?_
      have c401 := ((((n363.keep K371).keep K380).ext E386).keep K396)
      refine Wlk.callI (pc' := 59) (a := b382) (x := (⟨"java/util/List", "add", "(Ljava/lang/Object;)Z"⟩ : MethodName)) (C := "java/util/ArrayList") (z := (⟨"java/util/ArrayList", "add", "(Ljava/lang/Object;)Z"⟩ : MethodName)) (argsL := [(.ref s359)]) (st := []) (W := 0) at_54 (hw _ (List.mem_of_getElem? (i := 59) rfl)) (hw _ (List.mem_of_getElem? (i := 60) rfl)) (fun s q => mvT q (hw _ (List.mem_of_getElem? (i := 61) rfl))) (hw _ (List.mem_of_getElem? (i := 62) rfl)) (hw _ (List.mem_of_getElem? (i := 63) rfl)) (hw _ (List.mem_of_getElem? (i := 64) rfl)) (hw _ (List.mem_of_getElem? (i := 65) rfl)) (hw _ (List.mem_of_getElem? (i := 66) rfl)) n397 (hw _ (List.mem_of_getElem? (i := 37) rfl)) (hw _ (List.mem_of_getElem? (i := 67) rfl)) (by decide) pd_13 rfl (al_add1 hw s359 b382 (0 : Int32) de _ h393 n397 n398 n399 n400 g385 SD D0 c401) (by decide) rfl (by decide) (by decide) (by decide) rfl rfl (fun v402 h403 J404 q405 => ?_)
      obtain ⟨b406, kb407, rfl, le408, g409, K410, n411, n412, n413, n414, n415, n416⟩ := q405
      show Wlk _ _ _ _ _ _ _ _ _ h403 11 37 59 #[.val (.int p1), .val (.int p2), .val (.int p3), .val (.int p4), .val (.int p5), .val (.int (2 : Int32)), .val (.int (0 : Int32)), .val (.ref s359), .val (.ref s368), .val (.ref s377), .val (.ref b382), .unset, .unset, .unset] [(.int (1 : Int32))]
      have A417 : Arv Z h403 b406 kb407 (.object "java/lang/Object") (10 : Int32) [(.ref s359), .null, .null, .null, .null, .null, .null, .null, .null, .null] .null := n415
      have F418 : Fld Z h403 b382 "java/util/ArrayList" "size" "I" (.int (1 : Int32)) := n414
      refine Wlk.pop (pc' := 60) at_59 rfl rfl ?_
      refine Wlk.iload (pc' := 62) (v := (2 : Int32)) at_60 rfl rfl ?_
      refine Wlk.iconst (pc' := 63) (v := (2 : Int32)) at_62 rfl rfl ?_
      refine Wlk.icF (pc' := 66) at_63 (show ¬ ((2 : Int32) < (2 : Int32)) from by decide) rfl ?_
      refine Wlk.aload (pc' := 68) (v := (.ref b382)) at_66 rfl rfl rfl ?_
      refine Wlk.aload (pc' := 70) (v := (.ref s368)) at_68 rfl rfl rfl ?_
      have c419 := ((((n372.keep K380).ext E386).keep K396).keep K410)
      refine Wlk.callI (pc' := 75) (a := b382) (x := (⟨"java/util/List", "add", "(Ljava/lang/Object;)Z"⟩ : MethodName)) (C := "java/util/ArrayList") (z := (⟨"java/util/ArrayList", "add", "(Ljava/lang/Object;)Z"⟩ : MethodName)) (argsL := [(.ref s368)]) (st := []) (W := 0) at_70 (hw _ (List.mem_of_getElem? (i := 59) rfl)) (hw _ (List.mem_of_getElem? (i := 60) rfl)) (fun s q => mvT q (hw _ (List.mem_of_getElem? (i := 61) rfl))) (hw _ (List.mem_of_getElem? (i := 62) rfl)) (hw _ (List.mem_of_getElem? (i := 63) rfl)) (hw _ (List.mem_of_getElem? (i := 64) rfl)) (hw _ (List.mem_of_getElem? (i := 65) rfl)) (hw _ (List.mem_of_getElem? (i := 66) rfl)) n411 (hw _ (List.mem_of_getElem? (i := 37) rfl)) (hw _ (List.mem_of_getElem? (i := 67) rfl)) (by decide) pd_13 rfl (al_add2 hw b382 s368 b406 kb407 1 ((0 : Int32) + 1) [(.ref s359), .null, .null, .null, .null, .null, .null, .null, .null, .null] h403 n411 n412 n413 F418 A417 n416 g385 g409 c419 (Nat.ne_of_lt (Nat.lt_of_lt_of_le A387.lt (Nat.le_trans K396.1 le408))) rfl (by decide)) (by decide) rfl (by decide) (by decide) (by decide) rfl rfl (fun v420 h421 J422 q423 => ?_)
      obtain ⟨rfl, K424, n425, n426, n427, n428, n429, n430⟩ := q423
      show Wlk _ _ _ _ _ _ _ _ _ h421 11 37 75 #[.val (.int p1), .val (.int p2), .val (.int p3), .val (.int p4), .val (.int p5), .val (.int (2 : Int32)), .val (.int (0 : Int32)), .val (.ref s359), .val (.ref s368), .val (.ref s377), .val (.ref b382), .unset, .unset, .unset] [(.int (1 : Int32))]
      have A431 : Arv Z h421 b406 kb407 (.object "java/lang/Object") (10 : Int32) [(.ref s359), (.ref s368), .null, .null, .null, .null, .null, .null, .null, .null] .null := n429
      have F432 : Fld Z h421 b382 "java/util/ArrayList" "size" "I" (.int (2 : Int32)) := n428
      refine Wlk.pop (pc' := 76) at_75 rfl rfl ?_
      refine Wlk.iload (pc' := 78) (v := (2 : Int32)) at_76 rfl rfl ?_
      refine Wlk.iconst (pc' := 79) (v := (3 : Int32)) at_78 rfl rfl ?_
      refine Wlk.icT (pc' := 92) at_79 (by decide) (by decide) (show (2 : Int32) < (3 : Int32) from by decide) ?_
      refine Wlk.newO (pc' := 95) (C := "com/example/fairgauge/fairgauge/io/CsvInput$Record") at_92 (hw _ (List.mem_of_getElem? (i := 94) rfl)) (hw _ (List.mem_of_getElem? (i := 95) rfl)) (hw _ (List.mem_of_getElem? (i := 96) rfl)) (by decide) (by decide) rfl (fun b433 h434 le435 g436 E437 A438 D439 => ?_)
      have F440 : Fld Z h434 b433 "com/example/fairgauge/fairgauge/io/CsvInput$Record" "line" "I" (.int (0 : Int32)) := D439 (Or.inr (hw _ (List.mem_of_getElem? (i := 107) rfl))) (ty := .int) (by decide)
      have F441 : Fld Z h434 b433 "com/example/fairgauge/fairgauge/io/CsvInput$Record" "fields" "Ljava/util/List;" .null := D439 (Or.inr (hw _ (List.mem_of_getElem? (i := 109) rfl))) (ty := (.object "java/util/List")) (by decide)
      refine Wlk.dup (pc' := 96) at_95 rfl rfl ?_
      refine Wlk.iloadN (pc' := 97) (v := p1) at_96 rfl rfl ?_
      refine Wlk.aload (pc' := 99) (v := (.ref b382)) at_97 rfl rfl rfl ?_
      refine Wlk.callC (pc' := 102) (a := b433) (z := (⟨"com/example/fairgauge/fairgauge/io/CsvInput$Record", "<init>", "(ILjava/util/List;)V"⟩ : MethodName)) (argsL := [(.int p1), (.ref b382)]) (st := [(.ref b433)]) (W := 1) at_99 (hw _ (List.mem_of_getElem? (i := 97) rfl)) (hw _ (List.mem_of_getElem? (i := 98) rfl)) (hw _ (List.mem_of_getElem? (i := 96) rfl)) (hw _ (List.mem_of_getElem? (i := 99) rfl)) (by decide) rfl pd_14 rfl (rm_rec hw b433 p1 b382 (.int (0 : Int32)) .null h434 A438 F440 F441 g436) (by decide) rfl (by decide) (by decide) (by decide) rfl rfl (fun v442 h443 J444 q445 => ?_)
      obtain ⟨rfl, K446, n447, n448⟩ := q445
      show Wlk _ _ _ _ _ _ _ _ _ h443 12 39 102 #[.val (.int p1), .val (.int p2), .val (.int p3), .val (.int p4), .val (.int p5), .val (.int (2 : Int32)), .val (.int (0 : Int32)), .val (.ref s359), .val (.ref s368), .val (.ref s377), .val (.ref b382), .unset, .unset, .unset] [(.ref b433)]
      refine Wlk.astore (pc' := 104) (Ls' := #[.val (.int p1), .val (.int p2), .val (.int p3), .val (.int p4), .val (.int p5), .val (.int (2 : Int32)), .val (.int (0 : Int32)), .val (.ref s359), .val (.ref s368), .val (.ref s377), .val (.ref b382), .val (.ref b433), .unset, .unset]) at_102 rfl rfl rfl rfl ?_
      refine Wlk.iload (pc' := 106) (v := (0 : Int32)) at_104 rfl rfl ?_
      refine Wlk.ifF (pc' := 109) at_106 (show (0 : Int32) = (0 : Int32) from by decide) rfl ?_
      refine Wlk.aload (pc' := 111) (v := (.ref s359)) at_109 rfl rfl rfl ?_
      refine Wlk.astore (pc' := 113) (Ls' := #[.val (.int p1), .val (.int p2), .val (.int p3), .val (.int p4), .val (.int p5), .val (.int (2 : Int32)), .val (.int (0 : Int32)), .val (.ref s359), .val (.ref s368), .val (.ref s377), .val (.ref b382), .val (.ref b433), .val (.ref s359), .unset]) at_111 rfl rfl rfl rfl ?_
      refine Wlk.goto (pc' := 133) at_113 (by decide) (by decide) ?_
      refine Wlk.aload (pc' := 135) (v := (.ref b433)) at_133 rfl rfl rfl ?_
      refine Wlk.iload (pc' := 137) (v := (0 : Int32)) at_135 rfl rfl ?_
      have c449 := ((n425.ext E437).keep K446)
      have c450 := ((n427.ext E437).keep K446 (ninS (Nat.ne_of_lt (Nat.lt_of_lt_of_le A387.lt (Nat.le_trans (Nat.le_trans (Nat.le_trans K396.1 K410.1) K424.1) le435))) nin0))
      have c451 := ((F432.ext E437).keep K446 (ninS (Nat.ne_of_lt (Nat.lt_of_lt_of_le A387.lt (Nat.le_trans (Nat.le_trans (Nat.le_trans K396.1 K410.1) K424.1) le435))) nin0))
      have c452 := ((A431.ext E437).keep K446 (ninS (Nat.ne_of_lt (Nat.lt_of_lt_of_le n415.lt (Nat.le_trans K424.1 le435))) nin0))
      have c453 := ((((c401.keep K410).keep K424).ext E437).keep K446)
      refine Wlk.callV (pc' := 140) (a := b433) (x := (⟨"com/example/fairgauge/fairgauge/io/CsvInput$Record", "field", "(I)Ljava/lang/String;"⟩ : MethodName)) (C := "com/example/fairgauge/fairgauge/io/CsvInput$Record") (z := (⟨"com/example/fairgauge/fairgauge/io/CsvInput$Record", "field", "(I)Ljava/lang/String;"⟩ : MethodName)) (argsL := [(.int (0 : Int32))]) (st := []) (W := 0) at_137 (hw _ (List.mem_of_getElem? (i := 110) rfl)) (hw _ (List.mem_of_getElem? (i := 111) rfl)) (fun s q => notFace_of_selects (args := #[]) (mvT q (hw _ (List.mem_of_getElem? (i := 113) rfl)))) (hw _ (List.mem_of_getElem? (i := 113) rfl)) (hw _ (List.mem_of_getElem? (i := 112) rfl)) n447 (hw _ (List.mem_of_getElem? (i := 96) rfl)) (hw _ (List.mem_of_getElem? (i := 114) rfl)) (by decide) pd_12 rfl (rm_fld hw b433 (0 : Int32) b382 b406 kb407 s359 [(.ref s359), (.ref s368), .null, .null, .null, .null, .null, .null, .null, .null] (2 : Int32) h443 n448 c449 c450 c451 c452 (by decide) (by decide) (by decide) rfl c453) (by decide) rfl (by decide) (by decide) (by decide) rfl rfl (fun v454 h455 J456 q457 => ?_)
      obtain ⟨rfl, rfl⟩ := q457
      show Wlk _ _ _ _ _ _ _ _ _ h443 12 39 140 #[.val (.int p1), .val (.int p2), .val (.int p3), .val (.int p4), .val (.int p5), .val (.int (2 : Int32)), .val (.int (0 : Int32)), .val (.ref s359), .val (.ref s368), .val (.ref s377), .val (.ref b382), .val (.ref b433), .val (.ref s359), .unset] [(.ref s359)]
      refine Wlk.astore (pc' := 142) (Ls' := #[.val (.int p1), .val (.int p2), .val (.int p3), .val (.int p4), .val (.int p5), .val (.int (2 : Int32)), .val (.int (0 : Int32)), .val (.ref s359), .val (.ref s368), .val (.ref s377), .val (.ref b382), .val (.ref b433), .val (.ref s359), .val (.ref s359)]) at_140 rfl rfl rfl rfl ?_
      refine Wlk.aload (pc' := 144) (v := (.ref s359)) at_142 rfl rfl rfl ?_
      refine Wlk.aload (pc' := 146) (v := (.ref s359)) at_144 rfl rfl rfl ?_
      refine Wlk.acmp (pc' := 149) (same := true) at_146 rfl rfl (decide_eq_true rfl) (by decide) (by decide) ?_
      refine Wlk.iconst (pc' := 150) (v := (1 : Int32)) at_149 rfl rfl ?_
      refine Wlk.goto (pc' := 154) at_150 (by decide) (by decide) ?_
      refine Wlk.ireturnN (t := .boolean) at_154 rfl (by simp) (by decide) (by decide) ?_
      exact rfl
    · skip
      refine Wlk.istore (pc' := 19) (Ls' := #[.val (.int p1), .val (.int p2), .val (.int p3), .val (.int p4), .val (.int p5), .val (.int (2 : Int32)), .val (.int (1 : Int32)), .unset, .unset, .unset, .unset, .unset, .unset, .unset]) at_17 rfl rfl rfl ?_
      refine Wlk.iloadN (pc' := 20) (v := p4) at_19 rfl rfl ?_
      refine Wlk.callS (pc' := 23) (z := (⟨"com/example/fairgauge/fairgauge/io/RecordFieldPinLaw", "drawn", "(I)Ljava/lang/String;"⟩ : MethodName)) (argsL := [(.int p4)]) (st := []) (W := 0) at_20 (hw _ (List.mem_of_getElem? (i := 1) rfl)) (hw _ (List.mem_of_getElem? (i := 2) rfl)) (hw _ (List.mem_of_getElem? (i := 3) rfl)) (hw _ (List.mem_of_getElem? (i := 4) rfl)) (by decide) pd_12 rfl (rm_drawn hw p4 zc h0 O2 P3) (by decide) rfl (by decide) (by decide) (by decide) rfl rfl (fun v458 h459 J460 q461 => ?_)
      obtain ⟨s462, rfl, le463, g464, K465, n466⟩ := q461
      show Wlk _ _ _ _ _ _ _ _ _ h459 3 8 23 #[.val (.int p1), .val (.int p2), .val (.int p3), .val (.int p4), .val (.int p5), .val (.int (2 : Int32)), .val (.int (1 : Int32)), .unset, .unset, .unset, .unset, .unset, .unset, .unset] [(.ref s462)]
      refine Wlk.astore (pc' := 25) (Ls' := #[.val (.int p1), .val (.int p2), .val (.int p3), .val (.int p4), .val (.int p5), .val (.int (2 : Int32)), .val (.int (1 : Int32)), .val (.ref s462), .unset, .unset, .unset, .unset, .unset, .unset]) at_23 rfl rfl rfl rfl ?_
      refine Wlk.iloadN (pc' := 26) (v := p4) at_25 rfl rfl ?_
      refine Wlk.bipush (pc' := 28) (v := (16 : Int32)) at_26 (by decide) rfl ?_
      refine Wlk.iushr (pc' := 29) at_28 rfl ?_
      refine Wlk.callS (pc' := 32) (z := (⟨"com/example/fairgauge/fairgauge/io/RecordFieldPinLaw", "drawn", "(I)Ljava/lang/String;"⟩ : MethodName)) (argsL := [(.int (((p4).toUInt32 >>> ((16 : Int32) &&& 31).toUInt32).toInt32))]) (st := []) (W := 0) at_29 (hw _ (List.mem_of_getElem? (i := 1) rfl)) (hw _ (List.mem_of_getElem? (i := 2) rfl)) (hw _ (List.mem_of_getElem? (i := 3) rfl)) (hw _ (List.mem_of_getElem? (i := 4) rfl)) (by decide) pd_12 rfl (rm_drawn hw (((p4).toUInt32 >>> ((16 : Int32) &&& 31).toUInt32).toInt32) zc h459 O2 P3) (by decide) rfl (by decide) (by decide) (by decide) rfl rfl (fun v467 h468 J469 q470 => ?_)
      obtain ⟨s471, rfl, le472, g473, K474, n475⟩ := q470
      show Wlk _ _ _ _ _ _ _ _ _ h468 6 16 32 #[.val (.int p1), .val (.int p2), .val (.int p3), .val (.int p4), .val (.int p5), .val (.int (2 : Int32)), .val (.int (1 : Int32)), .val (.ref s462), .unset, .unset, .unset, .unset, .unset, .unset] [(.ref s471)]
      refine Wlk.astore (pc' := 34) (Ls' := #[.val (.int p1), .val (.int p2), .val (.int p3), .val (.int p4), .val (.int p5), .val (.int (2 : Int32)), .val (.int (1 : Int32)), .val (.ref s462), .val (.ref s471), .unset, .unset, .unset, .unset, .unset]) at_32 rfl rfl rfl rfl ?_
      refine Wlk.iload (pc' := 36) (v := p5) at_34 rfl rfl ?_
      refine Wlk.callS (pc' := 39) (z := (⟨"com/example/fairgauge/fairgauge/io/RecordFieldPinLaw", "drawn", "(I)Ljava/lang/String;"⟩ : MethodName)) (argsL := [(.int p5)]) (st := []) (W := 0) at_36 (hw _ (List.mem_of_getElem? (i := 1) rfl)) (hw _ (List.mem_of_getElem? (i := 2) rfl)) (hw _ (List.mem_of_getElem? (i := 3) rfl)) (hw _ (List.mem_of_getElem? (i := 4) rfl)) (by decide) pd_12 rfl (rm_drawn hw p5 zc h468 O2 P3) (by decide) rfl (by decide) (by decide) (by decide) rfl rfl (fun v476 h477 J478 q479 => ?_)
      obtain ⟨s480, rfl, le481, g482, K483, n484⟩ := q479
      show Wlk _ _ _ _ _ _ _ _ _ h477 9 24 39 #[.val (.int p1), .val (.int p2), .val (.int p3), .val (.int p4), .val (.int p5), .val (.int (2 : Int32)), .val (.int (1 : Int32)), .val (.ref s462), .val (.ref s471), .unset, .unset, .unset, .unset, .unset] [(.ref s480)]
      refine Wlk.astore (pc' := 41) (Ls' := #[.val (.int p1), .val (.int p2), .val (.int p3), .val (.int p4), .val (.int p5), .val (.int (2 : Int32)), .val (.int (1 : Int32)), .val (.ref s462), .val (.ref s471), .val (.ref s480), .unset, .unset, .unset, .unset]) at_39 rfl rfl rfl rfl ?_
      refine Wlk.newO (pc' := 44) (C := "java/util/ArrayList") at_41 (hw _ (List.mem_of_getElem? (i := 35) rfl)) (hw _ (List.mem_of_getElem? (i := 36) rfl)) (hw _ (List.mem_of_getElem? (i := 37) rfl)) (by decide) (by decide) rfl (fun b485 h486 le487 g488 E489 A490 D491 => ?_)
      have F492 : Fld Z h486 b485 "java/util/AbstractList" "modCount" "I" (.int (0 : Int32)) := D491 (Or.inl (hw _ (List.mem_of_getElem? (i := 55) rfl))) (ty := .int) (by decide)
      have F493 : Fld Z h486 b485 "java/util/ArrayList" "elementData" "[Ljava/lang/Object;" .null := D491 (Or.inl (hw _ (List.mem_of_getElem? (i := 58) rfl))) (ty := (.array (.object "java/lang/Object"))) (by decide)
      have F494 : Fld Z h486 b485 "java/util/ArrayList" "size" "I" (.int (0 : Int32)) := D491 (Or.inl (hw _ (List.mem_of_getElem? (i := 71) rfl))) (ty := .int) (by decide)
      refine Wlk.dup (pc' := 45) at_44 rfl rfl ?_
      refine Wlk.callC (pc' := 48) (a := b485) (z := (⟨"java/util/ArrayList", "<init>", "()V"⟩ : MethodName)) (argsL := []) (st := [(.ref b485)]) (W := 1) at_45 (hw _ (List.mem_of_getElem? (i := 38) rfl)) (hw _ (List.mem_of_getElem? (i := 39) rfl)) (hw _ (List.mem_of_getElem? (i := 37) rfl)) (hw _ (List.mem_of_getElem? (i := 40) rfl)) (by decide) rfl pd_4 rfl (al_init hw b485 .null (0 : Int32) (0 : Int32) de h486 A490 F492 F493 F494 g488 SD) (by decide) rfl (by decide) (by decide) (by decide) rfl rfl (fun v495 h496 J497 q498 => ?_)
      obtain ⟨rfl, K499, n500, n501, n502, n503⟩ := q498
      show Wlk _ _ _ _ _ _ _ _ _ h496 10 27 48 #[.val (.int p1), .val (.int p2), .val (.int p3), .val (.int p4), .val (.int p5), .val (.int (2 : Int32)), .val (.int (1 : Int32)), .val (.ref s462), .val (.ref s471), .val (.ref s480), .unset, .unset, .unset, .unset] [(.ref b485)]
      refine Wlk.astore (pc' := 50) (Ls' := #[.val (.int p1), .val (.int p2), .val (.int p3), .val (.int p4), .val (.int p5), .val (.int (2 : Int32)), .val (.int (1 : Int32)), .val (.ref s462), .val (.ref s471), .val (.ref s480), .val (.ref b485), .unset, .unset, .unset]) at_48 rfl rfl rfl rfl ?_
      refine Wlk.aload (pc' := 52) (v := (.ref b485)) at_50 rfl rfl rfl ?_
      refine Wlk.aload (pc' := 54) (v := (.ref s462)) at_52 rfl rfl rfl ?_
      have c504 := ((((n466.keep K474).keep K483).ext E489).keep K499)
      refine Wlk.callI (pc' := 59) (a := b485) (x := (⟨"java/util/List", "add", "(Ljava/lang/Object;)Z"⟩ : MethodName)) (C := "java/util/ArrayList") (z := (⟨"java/util/ArrayList", "add", "(Ljava/lang/Object;)Z"⟩ : MethodName)) (argsL := [(.ref s462)]) (st := []) (W := 0) at_54 (hw _ (List.mem_of_getElem? (i := 59) rfl)) (hw _ (List.mem_of_getElem? (i := 60) rfl)) (fun s q => mvT q (hw _ (List.mem_of_getElem? (i := 61) rfl))) (hw _ (List.mem_of_getElem? (i := 62) rfl)) (hw _ (List.mem_of_getElem? (i := 63) rfl)) (hw _ (List.mem_of_getElem? (i := 64) rfl)) (hw _ (List.mem_of_getElem? (i := 65) rfl)) (hw _ (List.mem_of_getElem? (i := 66) rfl)) n500 (hw _ (List.mem_of_getElem? (i := 37) rfl)) (hw _ (List.mem_of_getElem? (i := 67) rfl)) (by decide) pd_13 rfl (al_add1 hw s462 b485 (0 : Int32) de _ h496 n500 n501 n502 n503 g488 SD D0 c504) (by decide) rfl (by decide) (by decide) (by decide) rfl rfl (fun v505 h506 J507 q508 => ?_)
      obtain ⟨b509, kb510, rfl, le511, g512, K513, n514, n515, n516, n517, n518, n519⟩ := q508
      show Wlk _ _ _ _ _ _ _ _ _ h506 11 37 59 #[.val (.int p1), .val (.int p2), .val (.int p3), .val (.int p4), .val (.int p5), .val (.int (2 : Int32)), .val (.int (1 : Int32)), .val (.ref s462), .val (.ref s471), .val (.ref s480), .val (.ref b485), .unset, .unset, .unset] [(.int (1 : Int32))]
      have A520 : Arv Z h506 b509 kb510 (.object "java/lang/Object") (10 : Int32) [(.ref s462), .null, .null, .null, .null, .null, .null, .null, .null, .null] .null := n518
      have F521 : Fld Z h506 b485 "java/util/ArrayList" "size" "I" (.int (1 : Int32)) := n517
      refine Wlk.pop (pc' := 60) at_59 rfl rfl ?_
      refine Wlk.iload (pc' := 62) (v := (2 : Int32)) at_60 rfl rfl ?_
      refine Wlk.iconst (pc' := 63) (v := (2 : Int32)) at_62 rfl rfl ?_
      refine Wlk.icF (pc' := 66) at_63 (show ¬ ((2 : Int32) < (2 : Int32)) from by decide) rfl ?_
      refine Wlk.aload (pc' := 68) (v := (.ref b485)) at_66 rfl rfl rfl ?_
      refine Wlk.aload (pc' := 70) (v := (.ref s471)) at_68 rfl rfl rfl ?_
      have c522 := ((((n475.keep K483).ext E489).keep K499).keep K513)
      refine Wlk.callI (pc' := 75) (a := b485) (x := (⟨"java/util/List", "add", "(Ljava/lang/Object;)Z"⟩ : MethodName)) (C := "java/util/ArrayList") (z := (⟨"java/util/ArrayList", "add", "(Ljava/lang/Object;)Z"⟩ : MethodName)) (argsL := [(.ref s471)]) (st := []) (W := 0) at_70 (hw _ (List.mem_of_getElem? (i := 59) rfl)) (hw _ (List.mem_of_getElem? (i := 60) rfl)) (fun s q => mvT q (hw _ (List.mem_of_getElem? (i := 61) rfl))) (hw _ (List.mem_of_getElem? (i := 62) rfl)) (hw _ (List.mem_of_getElem? (i := 63) rfl)) (hw _ (List.mem_of_getElem? (i := 64) rfl)) (hw _ (List.mem_of_getElem? (i := 65) rfl)) (hw _ (List.mem_of_getElem? (i := 66) rfl)) n514 (hw _ (List.mem_of_getElem? (i := 37) rfl)) (hw _ (List.mem_of_getElem? (i := 67) rfl)) (by decide) pd_13 rfl (al_add2 hw b485 s471 b509 kb510 1 ((0 : Int32) + 1) [(.ref s462), .null, .null, .null, .null, .null, .null, .null, .null, .null] h506 n514 n515 n516 F521 A520 n519 g488 g512 c522 (Nat.ne_of_lt (Nat.lt_of_lt_of_le A490.lt (Nat.le_trans K499.1 le511))) rfl (by decide)) (by decide) rfl (by decide) (by decide) (by decide) rfl rfl (fun v523 h524 J525 q526 => ?_)
      obtain ⟨rfl, K527, n528, n529, n530, n531, n532, n533⟩ := q526
      show Wlk _ _ _ _ _ _ _ _ _ h524 11 37 75 #[.val (.int p1), .val (.int p2), .val (.int p3), .val (.int p4), .val (.int p5), .val (.int (2 : Int32)), .val (.int (1 : Int32)), .val (.ref s462), .val (.ref s471), .val (.ref s480), .val (.ref b485), .unset, .unset, .unset] [(.int (1 : Int32))]
      have A534 : Arv Z h524 b509 kb510 (.object "java/lang/Object") (10 : Int32) [(.ref s462), (.ref s471), .null, .null, .null, .null, .null, .null, .null, .null] .null := n532
      have F535 : Fld Z h524 b485 "java/util/ArrayList" "size" "I" (.int (2 : Int32)) := n531
      refine Wlk.pop (pc' := 76) at_75 rfl rfl ?_
      refine Wlk.iload (pc' := 78) (v := (2 : Int32)) at_76 rfl rfl ?_
      refine Wlk.iconst (pc' := 79) (v := (3 : Int32)) at_78 rfl rfl ?_
      refine Wlk.icT (pc' := 92) at_79 (by decide) (by decide) (show (2 : Int32) < (3 : Int32) from by decide) ?_
      refine Wlk.newO (pc' := 95) (C := "com/example/fairgauge/fairgauge/io/CsvInput$Record") at_92 (hw _ (List.mem_of_getElem? (i := 94) rfl)) (hw _ (List.mem_of_getElem? (i := 95) rfl)) (hw _ (List.mem_of_getElem? (i := 96) rfl)) (by decide) (by decide) rfl (fun b536 h537 le538 g539 E540 A541 D542 => ?_)
      have F543 : Fld Z h537 b536 "com/example/fairgauge/fairgauge/io/CsvInput$Record" "line" "I" (.int (0 : Int32)) := D542 (Or.inr (hw _ (List.mem_of_getElem? (i := 107) rfl))) (ty := .int) (by decide)
      have F544 : Fld Z h537 b536 "com/example/fairgauge/fairgauge/io/CsvInput$Record" "fields" "Ljava/util/List;" .null := D542 (Or.inr (hw _ (List.mem_of_getElem? (i := 109) rfl))) (ty := (.object "java/util/List")) (by decide)
      refine Wlk.dup (pc' := 96) at_95 rfl rfl ?_
      refine Wlk.iloadN (pc' := 97) (v := p1) at_96 rfl rfl ?_
      refine Wlk.aload (pc' := 99) (v := (.ref b485)) at_97 rfl rfl rfl ?_
      refine Wlk.callC (pc' := 102) (a := b536) (z := (⟨"com/example/fairgauge/fairgauge/io/CsvInput$Record", "<init>", "(ILjava/util/List;)V"⟩ : MethodName)) (argsL := [(.int p1), (.ref b485)]) (st := [(.ref b536)]) (W := 1) at_99 (hw _ (List.mem_of_getElem? (i := 97) rfl)) (hw _ (List.mem_of_getElem? (i := 98) rfl)) (hw _ (List.mem_of_getElem? (i := 96) rfl)) (hw _ (List.mem_of_getElem? (i := 99) rfl)) (by decide) rfl pd_14 rfl (rm_rec hw b536 p1 b485 (.int (0 : Int32)) .null h537 A541 F543 F544 g539) (by decide) rfl (by decide) (by decide) (by decide) rfl rfl (fun v545 h546 J547 q548 => ?_)
      obtain ⟨rfl, K549, n550, n551⟩ := q548
      show Wlk _ _ _ _ _ _ _ _ _ h546 12 39 102 #[.val (.int p1), .val (.int p2), .val (.int p3), .val (.int p4), .val (.int p5), .val (.int (2 : Int32)), .val (.int (1 : Int32)), .val (.ref s462), .val (.ref s471), .val (.ref s480), .val (.ref b485), .unset, .unset, .unset] [(.ref b536)]
      refine Wlk.astore (pc' := 104) (Ls' := #[.val (.int p1), .val (.int p2), .val (.int p3), .val (.int p4), .val (.int p5), .val (.int (2 : Int32)), .val (.int (1 : Int32)), .val (.ref s462), .val (.ref s471), .val (.ref s480), .val (.ref b485), .val (.ref b536), .unset, .unset]) at_102 rfl rfl rfl rfl ?_
      refine Wlk.iload (pc' := 106) (v := (1 : Int32)) at_104 rfl rfl ?_
      refine Wlk.ifT (pc' := 116) at_106 (by decide) (by decide) (show ¬ ((1 : Int32) = (0 : Int32)) from by decide) ?_
      refine Wlk.iload (pc' := 118) (v := (1 : Int32)) at_116 rfl rfl ?_
      refine Wlk.iconst (pc' := 119) (v := (1 : Int32)) at_118 rfl rfl ?_
      refine Wlk.icF (pc' := 122) at_119 (show (1 : Int32) = (1 : Int32) from by decide) rfl ?_
      refine Wlk.aload (pc' := 124) (v := (.ref s471)) at_122 rfl rfl rfl ?_
      refine Wlk.astore (pc' := 126) (Ls' := #[.val (.int p1), .val (.int p2), .val (.int p3), .val (.int p4), .val (.int p5), .val (.int (2 : Int32)), .val (.int (1 : Int32)), .val (.ref s462), .val (.ref s471), .val (.ref s480), .val (.ref b485), .val (.ref b536), .val (.ref s471), .unset]) at_124 rfl rfl rfl rfl ?_
      refine Wlk.goto (pc' := 133) at_126 (by decide) (by decide) ?_
      refine Wlk.aload (pc' := 135) (v := (.ref b536)) at_133 rfl rfl rfl ?_
      refine Wlk.iload (pc' := 137) (v := (1 : Int32)) at_135 rfl rfl ?_
      have c552 := ((n528.ext E540).keep K549)
      have c553 := ((n530.ext E540).keep K549 (ninS (Nat.ne_of_lt (Nat.lt_of_lt_of_le A490.lt (Nat.le_trans (Nat.le_trans (Nat.le_trans K499.1 K513.1) K527.1) le538))) nin0))
      have c554 := ((F535.ext E540).keep K549 (ninS (Nat.ne_of_lt (Nat.lt_of_lt_of_le A490.lt (Nat.le_trans (Nat.le_trans (Nat.le_trans K499.1 K513.1) K527.1) le538))) nin0))
      have c555 := ((A534.ext E540).keep K549 (ninS (Nat.ne_of_lt (Nat.lt_of_lt_of_le n518.lt (Nat.le_trans K527.1 le538))) nin0))
      have c556 := (((c522.keep K527).ext E540).keep K549)
      refine Wlk.callV (pc' := 140) (a := b536) (x := (⟨"com/example/fairgauge/fairgauge/io/CsvInput$Record", "field", "(I)Ljava/lang/String;"⟩ : MethodName)) (C := "com/example/fairgauge/fairgauge/io/CsvInput$Record") (z := (⟨"com/example/fairgauge/fairgauge/io/CsvInput$Record", "field", "(I)Ljava/lang/String;"⟩ : MethodName)) (argsL := [(.int (1 : Int32))]) (st := []) (W := 0) at_137 (hw _ (List.mem_of_getElem? (i := 110) rfl)) (hw _ (List.mem_of_getElem? (i := 111) rfl)) (fun s q => notFace_of_selects (args := #[]) (mvT q (hw _ (List.mem_of_getElem? (i := 113) rfl)))) (hw _ (List.mem_of_getElem? (i := 113) rfl)) (hw _ (List.mem_of_getElem? (i := 112) rfl)) n550 (hw _ (List.mem_of_getElem? (i := 96) rfl)) (hw _ (List.mem_of_getElem? (i := 114) rfl)) (by decide) pd_12 rfl (rm_fld hw b536 (1 : Int32) b485 b509 kb510 s471 [(.ref s462), (.ref s471), .null, .null, .null, .null, .null, .null, .null, .null] (2 : Int32) h546 n551 c552 c553 c554 c555 (by decide) (by decide) (by decide) rfl c556) (by decide) rfl (by decide) (by decide) (by decide) rfl rfl (fun v557 h558 J559 q560 => ?_)
      obtain ⟨rfl, rfl⟩ := q560
      show Wlk _ _ _ _ _ _ _ _ _ h546 12 39 140 #[.val (.int p1), .val (.int p2), .val (.int p3), .val (.int p4), .val (.int p5), .val (.int (2 : Int32)), .val (.int (1 : Int32)), .val (.ref s462), .val (.ref s471), .val (.ref s480), .val (.ref b485), .val (.ref b536), .val (.ref s471), .unset] [(.ref s471)]
      refine Wlk.astore (pc' := 142) (Ls' := #[.val (.int p1), .val (.int p2), .val (.int p3), .val (.int p4), .val (.int p5), .val (.int (2 : Int32)), .val (.int (1 : Int32)), .val (.ref s462), .val (.ref s471), .val (.ref s480), .val (.ref b485), .val (.ref b536), .val (.ref s471), .val (.ref s471)]) at_140 rfl rfl rfl rfl ?_
      refine Wlk.aload (pc' := 144) (v := (.ref s471)) at_142 rfl rfl rfl ?_
      refine Wlk.aload (pc' := 146) (v := (.ref s471)) at_144 rfl rfl rfl ?_
      refine Wlk.acmp (pc' := 149) (same := true) at_146 rfl rfl (decide_eq_true rfl) (by decide) (by decide) ?_
      refine Wlk.iconst (pc' := 150) (v := (1 : Int32)) at_149 rfl rfl ?_
      refine Wlk.goto (pc' := 154) at_150 (by decide) (by decide) ?_
      refine Wlk.ireturnN (t := .boolean) at_154 rfl (by simp) (by decide) (by decide) ?_
      exact rfl
  · skip
    refine Wlk.iconst (pc' := 7) (v := (1 : Int32)) at_6 rfl rfl ?_
    refine Wlk.iadd (pc' := 8) at_7 rfl ?_
    show Wlk _ _ _ _ _ _ _ _ _ _ _ _ _ _ [(.int (3 : Int32))]
    refine Wlk.istore (pc' := 10) (Ls' := #[.val (.int p1), .val (.int p2), .val (.int p3), .val (.int p4), .val (.int p5), .val (.int (3 : Int32)), .unset, .unset, .unset, .unset, .unset, .unset, .unset, .unset]) at_8 rfl rfl rfl ?_
    refine Wlk.iloadN (pc' := 11) (v := p3) at_10 rfl rfl ?_
    refine Wlk.ldcI (pc' := 13) (v := (2147483647 : Int32)) at_11 (hw _ (List.mem_of_getElem? (i := 0) rfl)) rfl ?_
    refine Wlk.iand (pc' := 14) at_13 rfl ?_
    refine Wlk.iload (pc' := 16) (v := (3 : Int32)) at_14 rfl rfl ?_
    refine Wlk.irem (pc' := 17) at_16 (by decide) rfl ?_
    obtain ⟨c, e_c⟩ : ∃ z, z = ((p3 &&& (2147483647 : Int32)) % (3 : Int32)) := ⟨_, rfl⟩
    rw [← e_c]
    rcases own_lt3 (e_c ▸ own_mod p3 3 3 (by decide) (by decide)) with rfl | rfl | rfl
    · skip
      refine Wlk.istore (pc' := 19) (Ls' := #[.val (.int p1), .val (.int p2), .val (.int p3), .val (.int p4), .val (.int p5), .val (.int (3 : Int32)), .val (.int (0 : Int32)), .unset, .unset, .unset, .unset, .unset, .unset, .unset]) at_17 rfl rfl rfl ?_
      refine Wlk.iloadN (pc' := 20) (v := p4) at_19 rfl rfl ?_
      refine Wlk.callS (pc' := 23) (z := (⟨"com/example/fairgauge/fairgauge/io/RecordFieldPinLaw", "drawn", "(I)Ljava/lang/String;"⟩ : MethodName)) (argsL := [(.int p4)]) (st := []) (W := 0) at_20 (hw _ (List.mem_of_getElem? (i := 1) rfl)) (hw _ (List.mem_of_getElem? (i := 2) rfl)) (hw _ (List.mem_of_getElem? (i := 3) rfl)) (hw _ (List.mem_of_getElem? (i := 4) rfl)) (by decide) pd_12 rfl (rm_drawn hw p4 zc h0 O2 P3) (by decide) rfl (by decide) (by decide) (by decide) rfl rfl (fun v561 h562 J563 q564 => ?_)
      obtain ⟨s565, rfl, le566, g567, K568, n569⟩ := q564
      show Wlk _ _ _ _ _ _ _ _ _ h562 3 8 23 #[.val (.int p1), .val (.int p2), .val (.int p3), .val (.int p4), .val (.int p5), .val (.int (3 : Int32)), .val (.int (0 : Int32)), .unset, .unset, .unset, .unset, .unset, .unset, .unset] [(.ref s565)]
      refine Wlk.astore (pc' := 25) (Ls' := #[.val (.int p1), .val (.int p2), .val (.int p3), .val (.int p4), .val (.int p5), .val (.int (3 : Int32)), .val (.int (0 : Int32)), .val (.ref s565), .unset, .unset, .unset, .unset, .unset, .unset]) at_23 rfl rfl rfl rfl ?_
      refine Wlk.iloadN (pc' := 26) (v := p4) at_25 rfl rfl ?_
      refine Wlk.bipush (pc' := 28) (v := (16 : Int32)) at_26 (by decide) rfl ?_
      refine Wlk.iushr (pc' := 29) at_28 rfl ?_
      refine Wlk.callS (pc' := 32) (z := (⟨"com/example/fairgauge/fairgauge/io/RecordFieldPinLaw", "drawn", "(I)Ljava/lang/String;"⟩ : MethodName)) (argsL := [(.int (((p4).toUInt32 >>> ((16 : Int32) &&& 31).toUInt32).toInt32))]) (st := []) (W := 0) at_29 (hw _ (List.mem_of_getElem? (i := 1) rfl)) (hw _ (List.mem_of_getElem? (i := 2) rfl)) (hw _ (List.mem_of_getElem? (i := 3) rfl)) (hw _ (List.mem_of_getElem? (i := 4) rfl)) (by decide) pd_12 rfl (rm_drawn hw (((p4).toUInt32 >>> ((16 : Int32) &&& 31).toUInt32).toInt32) zc h562 O2 P3) (by decide) rfl (by decide) (by decide) (by decide) rfl rfl (fun v570 h571 J572 q573 => ?_)
      obtain ⟨s574, rfl, le575, g576, K577, n578⟩ := q573
      show Wlk _ _ _ _ _ _ _ _ _ h571 6 16 32 #[.val (.int p1), .val (.int p2), .val (.int p3), .val (.int p4), .val (.int p5), .val (.int (3 : Int32)), .val (.int (0 : Int32)), .val (.ref s565), .unset, .unset, .unset, .unset, .unset, .unset] [(.ref s574)]
      refine Wlk.astore (pc' := 34) (Ls' := #[.val (.int p1), .val (.int p2), .val (.int p3), .val (.int p4), .val (.int p5), .val (.int (3 : Int32)), .val (.int (0 : Int32)), .val (.ref s565), .val (.ref s574), .unset, .unset, .unset, .unset, .unset]) at_32 rfl rfl rfl rfl ?_
      refine Wlk.iload (pc' := 36) (v := p5) at_34 rfl rfl ?_
      refine Wlk.callS (pc' := 39) (z := (⟨"com/example/fairgauge/fairgauge/io/RecordFieldPinLaw", "drawn", "(I)Ljava/lang/String;"⟩ : MethodName)) (argsL := [(.int p5)]) (st := []) (W := 0) at_36 (hw _ (List.mem_of_getElem? (i := 1) rfl)) (hw _ (List.mem_of_getElem? (i := 2) rfl)) (hw _ (List.mem_of_getElem? (i := 3) rfl)) (hw _ (List.mem_of_getElem? (i := 4) rfl)) (by decide) pd_12 rfl (rm_drawn hw p5 zc h571 O2 P3) (by decide) rfl (by decide) (by decide) (by decide) rfl rfl (fun v579 h580 J581 q582 => ?_)
      obtain ⟨s583, rfl, le584, g585, K586, n587⟩ := q582
      show Wlk _ _ _ _ _ _ _ _ _ h580 9 24 39 #[.val (.int p1), .val (.int p2), .val (.int p3), .val (.int p4), .val (.int p5), .val (.int (3 : Int32)), .val (.int (0 : Int32)), .val (.ref s565), .val (.ref s574), .unset, .unset, .unset, .unset, .unset] [(.ref s583)]
      refine Wlk.astore (pc' := 41) (Ls' := #[.val (.int p1), .val (.int p2), .val (.int p3), .val (.int p4), .val (.int p5), .val (.int (3 : Int32)), .val (.int (0 : Int32)), .val (.ref s565), .val (.ref s574), .val (.ref s583), .unset, .unset, .unset, .unset]) at_39 rfl rfl rfl rfl ?_
      refine Wlk.newO (pc' := 44) (C := "java/util/ArrayList") at_41 (hw _ (List.mem_of_getElem? (i := 35) rfl)) (hw _ (List.mem_of_getElem? (i := 36) rfl)) (hw _ (List.mem_of_getElem? (i := 37) rfl)) (by decide) (by decide) rfl (fun b588 h589 le590 g591 E592 A593 D594 => ?_)
      have F595 : Fld Z h589 b588 "java/util/AbstractList" "modCount" "I" (.int (0 : Int32)) := D594 (Or.inl (hw _ (List.mem_of_getElem? (i := 55) rfl))) (ty := .int) (by decide)
      have F596 : Fld Z h589 b588 "java/util/ArrayList" "elementData" "[Ljava/lang/Object;" .null := D594 (Or.inl (hw _ (List.mem_of_getElem? (i := 58) rfl))) (ty := (.array (.object "java/lang/Object"))) (by decide)
      have F597 : Fld Z h589 b588 "java/util/ArrayList" "size" "I" (.int (0 : Int32)) := D594 (Or.inl (hw _ (List.mem_of_getElem? (i := 71) rfl))) (ty := .int) (by decide)
      refine Wlk.dup (pc' := 45) at_44 rfl rfl ?_
      refine Wlk.callC (pc' := 48) (a := b588) (z := (⟨"java/util/ArrayList", "<init>", "()V"⟩ : MethodName)) (argsL := []) (st := [(.ref b588)]) (W := 1) at_45 (hw _ (List.mem_of_getElem? (i := 38) rfl)) (hw _ (List.mem_of_getElem? (i := 39) rfl)) (hw _ (List.mem_of_getElem? (i := 37) rfl)) (hw _ (List.mem_of_getElem? (i := 40) rfl)) (by decide) rfl pd_4 rfl (al_init hw b588 .null (0 : Int32) (0 : Int32) de h589 A593 F595 F596 F597 g591 SD) (by decide) rfl (by decide) (by decide) (by decide) rfl rfl (fun v598 h599 J600 q601 => ?_)
      obtain ⟨rfl, K602, n603, n604, n605, n606⟩ := q601
      show Wlk _ _ _ _ _ _ _ _ _ h599 10 27 48 #[.val (.int p1), .val (.int p2), .val (.int p3), .val (.int p4), .val (.int p5), .val (.int (3 : Int32)), .val (.int (0 : Int32)), .val (.ref s565), .val (.ref s574), .val (.ref s583), .unset, .unset, .unset, .unset] [(.ref b588)]
      refine Wlk.astore (pc' := 50) (Ls' := #[.val (.int p1), .val (.int p2), .val (.int p3), .val (.int p4), .val (.int p5), .val (.int (3 : Int32)), .val (.int (0 : Int32)), .val (.ref s565), .val (.ref s574), .val (.ref s583), .val (.ref b588), .unset, .unset, .unset]) at_48 rfl rfl rfl rfl ?_
      refine Wlk.aload (pc' := 52) (v := (.ref b588)) at_50 rfl rfl rfl ?_
      refine Wlk.aload (pc' := 54) (v := (.ref s565)) at_52 rfl rfl rfl ?_
      have c607 := ((((n569.keep K577).keep K586).ext E592).keep K602)
      refine Wlk.callI (pc' := 59) (a := b588) (x := (⟨"java/util/List", "add", "(Ljava/lang/Object;)Z"⟩ : MethodName)) (C := "java/util/ArrayList") (z := (⟨"java/util/ArrayList", "add", "(Ljava/lang/Object;)Z"⟩ : MethodName)) (argsL := [(.ref s565)]) (st := []) (W := 0) at_54 (hw _ (List.mem_of_getElem? (i := 59) rfl)) (hw _ (List.mem_of_getElem? (i := 60) rfl)) (fun s q => mvT q (hw _ (List.mem_of_getElem? (i := 61) rfl))) (hw _ (List.mem_of_getElem? (i := 62) rfl)) (hw _ (List.mem_of_getElem? (i := 63) rfl)) (hw _ (List.mem_of_getElem? (i := 64) rfl)) (hw _ (List.mem_of_getElem? (i := 65) rfl)) (hw _ (List.mem_of_getElem? (i := 66) rfl)) n603 (hw _ (List.mem_of_getElem? (i := 37) rfl)) (hw _ (List.mem_of_getElem? (i := 67) rfl)) (by decide) pd_13 rfl (al_add1 hw s565 b588 (0 : Int32) de _ h599 n603 n604 n605 n606 g591 SD D0 c607) (by decide) rfl (by decide) (by decide) (by decide) rfl rfl (fun v608 h609 J610 q611 => ?_)
      obtain ⟨b612, kb613, rfl, le614, g615, K616, n617, n618, n619, n620, n621, n622⟩ := q611
      show Wlk _ _ _ _ _ _ _ _ _ h609 11 37 59 #[.val (.int p1), .val (.int p2), .val (.int p3), .val (.int p4), .val (.int p5), .val (.int (3 : Int32)), .val (.int (0 : Int32)), .val (.ref s565), .val (.ref s574), .val (.ref s583), .val (.ref b588), .unset, .unset, .unset] [(.int (1 : Int32))]
      have A623 : Arv Z h609 b612 kb613 (.object "java/lang/Object") (10 : Int32) [(.ref s565), .null, .null, .null, .null, .null, .null, .null, .null, .null] .null := n621
      have F624 : Fld Z h609 b588 "java/util/ArrayList" "size" "I" (.int (1 : Int32)) := n620
      refine Wlk.pop (pc' := 60) at_59 rfl rfl ?_
      refine Wlk.iload (pc' := 62) (v := (3 : Int32)) at_60 rfl rfl ?_
      refine Wlk.iconst (pc' := 63) (v := (2 : Int32)) at_62 rfl rfl ?_
      refine Wlk.icF (pc' := 66) at_63 (show ¬ ((3 : Int32) < (2 : Int32)) from by decide) rfl ?_
      refine Wlk.aload (pc' := 68) (v := (.ref b588)) at_66 rfl rfl rfl ?_
      refine Wlk.aload (pc' := 70) (v := (.ref s574)) at_68 rfl rfl rfl ?_
      have c625 := ((((n578.keep K586).ext E592).keep K602).keep K616)
      refine Wlk.callI (pc' := 75) (a := b588) (x := (⟨"java/util/List", "add", "(Ljava/lang/Object;)Z"⟩ : MethodName)) (C := "java/util/ArrayList") (z := (⟨"java/util/ArrayList", "add", "(Ljava/lang/Object;)Z"⟩ : MethodName)) (argsL := [(.ref s574)]) (st := []) (W := 0) at_70 (hw _ (List.mem_of_getElem? (i := 59) rfl)) (hw _ (List.mem_of_getElem? (i := 60) rfl)) (fun s q => mvT q (hw _ (List.mem_of_getElem? (i := 61) rfl))) (hw _ (List.mem_of_getElem? (i := 62) rfl)) (hw _ (List.mem_of_getElem? (i := 63) rfl)) (hw _ (List.mem_of_getElem? (i := 64) rfl)) (hw _ (List.mem_of_getElem? (i := 65) rfl)) (hw _ (List.mem_of_getElem? (i := 66) rfl)) n617 (hw _ (List.mem_of_getElem? (i := 37) rfl)) (hw _ (List.mem_of_getElem? (i := 67) rfl)) (by decide) pd_13 rfl (al_add2 hw b588 s574 b612 kb613 1 ((0 : Int32) + 1) [(.ref s565), .null, .null, .null, .null, .null, .null, .null, .null, .null] h609 n617 n618 n619 F624 A623 n622 g591 g615 c625 (Nat.ne_of_lt (Nat.lt_of_lt_of_le A593.lt (Nat.le_trans K602.1 le614))) rfl (by decide)) (by decide) rfl (by decide) (by decide) (by decide) rfl rfl (fun v626 h627 J628 q629 => ?_)
      obtain ⟨rfl, K630, n631, n632, n633, n634, n635, n636⟩ := q629
      show Wlk _ _ _ _ _ _ _ _ _ h627 11 37 75 #[.val (.int p1), .val (.int p2), .val (.int p3), .val (.int p4), .val (.int p5), .val (.int (3 : Int32)), .val (.int (0 : Int32)), .val (.ref s565), .val (.ref s574), .val (.ref s583), .val (.ref b588), .unset, .unset, .unset] [(.int (1 : Int32))]
      have A637 : Arv Z h627 b612 kb613 (.object "java/lang/Object") (10 : Int32) [(.ref s565), (.ref s574), .null, .null, .null, .null, .null, .null, .null, .null] .null := n635
      have F638 : Fld Z h627 b588 "java/util/ArrayList" "size" "I" (.int (2 : Int32)) := n634
      refine Wlk.pop (pc' := 76) at_75 rfl rfl ?_
      refine Wlk.iload (pc' := 78) (v := (3 : Int32)) at_76 rfl rfl ?_
      refine Wlk.iconst (pc' := 79) (v := (3 : Int32)) at_78 rfl rfl ?_
      refine Wlk.icF (pc' := 82) at_79 (show ¬ ((3 : Int32) < (3 : Int32)) from by decide) rfl ?_
      refine Wlk.aload (pc' := 84) (v := (.ref b588)) at_82 rfl rfl rfl ?_
      refine Wlk.aload (pc' := 86) (v := (.ref s583)) at_84 rfl rfl rfl ?_
      have c639 := ((((n587.ext E592).keep K602).keep K616).keep K630)
      refine Wlk.callI (pc' := 91) (a := b588) (x := (⟨"java/util/List", "add", "(Ljava/lang/Object;)Z"⟩ : MethodName)) (C := "java/util/ArrayList") (z := (⟨"java/util/ArrayList", "add", "(Ljava/lang/Object;)Z"⟩ : MethodName)) (argsL := [(.ref s583)]) (st := []) (W := 0) at_86 (hw _ (List.mem_of_getElem? (i := 59) rfl)) (hw _ (List.mem_of_getElem? (i := 60) rfl)) (fun s q => mvT q (hw _ (List.mem_of_getElem? (i := 61) rfl))) (hw _ (List.mem_of_getElem? (i := 62) rfl)) (hw _ (List.mem_of_getElem? (i := 63) rfl)) (hw _ (List.mem_of_getElem? (i := 64) rfl)) (hw _ (List.mem_of_getElem? (i := 65) rfl)) (hw _ (List.mem_of_getElem? (i := 66) rfl)) n631 (hw _ (List.mem_of_getElem? (i := 37) rfl)) (hw _ (List.mem_of_getElem? (i := 67) rfl)) (by decide) pd_13 rfl (al_add2 hw b588 s583 b612 kb613 2 (((0 : Int32) + 1) + 1) [(.ref s565), (.ref s574), .null, .null, .null, .null, .null, .null, .null, .null] h627 n631 n632 n633 F638 A637 n636 g591 g615 c639 (Nat.ne_of_lt (Nat.lt_of_lt_of_le A593.lt (Nat.le_trans K602.1 le614))) rfl (by decide)) (by decide) rfl (by decide) (by decide) (by decide) rfl rfl (fun v640 h641 J642 q643 => ?_)
      obtain ⟨rfl, K644, n645, n646, n647, n648, n649, n650⟩ := q643
      show Wlk _ _ _ _ _ _ _ _ _ h641 11 37 91 #[.val (.int p1), .val (.int p2), .val (.int p3), .val (.int p4), .val (.int p5), .val (.int (3 : Int32)), .val (.int (0 : Int32)), .val (.ref s565), .val (.ref s574), .val (.ref s583), .val (.ref b588), .unset, .unset, .unset] [(.int (1 : Int32))]
      have A651 : Arv Z h641 b612 kb613 (.object "java/lang/Object") (10 : Int32) [(.ref s565), (.ref s574), (.ref s583), .null, .null, .null, .null, .null, .null, .null] .null := n649
      have F652 : Fld Z h641 b588 "java/util/ArrayList" "size" "I" (.int (3 : Int32)) := n648
      refine Wlk.pop (pc' := 92) at_91 rfl rfl ?_
      refine Wlk.newO (pc' := 95) (C := "com/example/fairgauge/fairgauge/io/CsvInput$Record") at_92 (hw _ (List.mem_of_getElem? (i := 94) rfl)) (hw _ (List.mem_of_getElem? (i := 95) rfl)) (hw _ (List.mem_of_getElem? (i := 96) rfl)) (by decide) (by decide) rfl (fun b653 h654 le655 g656 E657 A658 D659 => ?_)
      have F660 : Fld Z h654 b653 "com/example/fairgauge/fairgauge/io/CsvInput$Record" "line" "I" (.int (0 : Int32)) := D659 (Or.inr (hw _ (List.mem_of_getElem? (i := 107) rfl))) (ty := .int) (by decide)
      have F661 : Fld Z h654 b653 "com/example/fairgauge/fairgauge/io/CsvInput$Record" "fields" "Ljava/util/List;" .null := D659 (Or.inr (hw _ (List.mem_of_getElem? (i := 109) rfl))) (ty := (.object "java/util/List")) (by decide)
      refine Wlk.dup (pc' := 96) at_95 rfl rfl ?_
      refine Wlk.iloadN (pc' := 97) (v := p1) at_96 rfl rfl ?_
      refine Wlk.aload (pc' := 99) (v := (.ref b588)) at_97 rfl rfl rfl ?_
      refine Wlk.callC (pc' := 102) (a := b653) (z := (⟨"com/example/fairgauge/fairgauge/io/CsvInput$Record", "<init>", "(ILjava/util/List;)V"⟩ : MethodName)) (argsL := [(.int p1), (.ref b588)]) (st := [(.ref b653)]) (W := 1) at_99 (hw _ (List.mem_of_getElem? (i := 97) rfl)) (hw _ (List.mem_of_getElem? (i := 98) rfl)) (hw _ (List.mem_of_getElem? (i := 96) rfl)) (hw _ (List.mem_of_getElem? (i := 99) rfl)) (by decide) rfl pd_14 rfl (rm_rec hw b653 p1 b588 (.int (0 : Int32)) .null h654 A658 F660 F661 g656) (by decide) rfl (by decide) (by decide) (by decide) rfl rfl (fun v662 h663 J664 q665 => ?_)
      obtain ⟨rfl, K666, n667, n668⟩ := q665
      show Wlk _ _ _ _ _ _ _ _ _ h663 12 39 102 #[.val (.int p1), .val (.int p2), .val (.int p3), .val (.int p4), .val (.int p5), .val (.int (3 : Int32)), .val (.int (0 : Int32)), .val (.ref s565), .val (.ref s574), .val (.ref s583), .val (.ref b588), .unset, .unset, .unset] [(.ref b653)]
      refine Wlk.astore (pc' := 104) (Ls' := #[.val (.int p1), .val (.int p2), .val (.int p3), .val (.int p4), .val (.int p5), .val (.int (3 : Int32)), .val (.int (0 : Int32)), .val (.ref s565), .val (.ref s574), .val (.ref s583), .val (.ref b588), .val (.ref b653), .unset, .unset]) at_102 rfl rfl rfl rfl ?_
      refine Wlk.iload (pc' := 106) (v := (0 : Int32)) at_104 rfl rfl ?_
      refine Wlk.ifF (pc' := 109) at_106 (show (0 : Int32) = (0 : Int32) from by decide) rfl ?_
      refine Wlk.aload (pc' := 111) (v := (.ref s565)) at_109 rfl rfl rfl ?_
      refine Wlk.astore (pc' := 113) (Ls' := #[.val (.int p1), .val (.int p2), .val (.int p3), .val (.int p4), .val (.int p5), .val (.int (3 : Int32)), .val (.int (0 : Int32)), .val (.ref s565), .val (.ref s574), .val (.ref s583), .val (.ref b588), .val (.ref b653), .val (.ref s565), .unset]) at_111 rfl rfl rfl rfl ?_
      refine Wlk.goto (pc' := 133) at_113 (by decide) (by decide) ?_
      refine Wlk.aload (pc' := 135) (v := (.ref b653)) at_133 rfl rfl rfl ?_
      refine Wlk.iload (pc' := 137) (v := (0 : Int32)) at_135 rfl rfl ?_
      have c669 := ((n645.ext E657).keep K666)
      have c670 := ((n647.ext E657).keep K666 (ninS (Nat.ne_of_lt (Nat.lt_of_lt_of_le A593.lt (Nat.le_trans (Nat.le_trans (Nat.le_trans (Nat.le_trans K602.1 K616.1) K630.1) K644.1) le655))) nin0))
      have c671 := ((F652.ext E657).keep K666 (ninS (Nat.ne_of_lt (Nat.lt_of_lt_of_le A593.lt (Nat.le_trans (Nat.le_trans (Nat.le_trans (Nat.le_trans K602.1 K616.1) K630.1) K644.1) le655))) nin0))
      have c672 := ((A651.ext E657).keep K666 (ninS (Nat.ne_of_lt (Nat.lt_of_lt_of_le n621.lt (Nat.le_trans (Nat.le_trans K630.1 K644.1) le655))) nin0))
      have c673 := (((((c607.keep K616).keep K630).keep K644).ext E657).keep K666)
      refine Wlk.callV (pc' := 140) (a := b653) (x := (⟨"com/example/fairgauge/fairgauge/io/CsvInput$Record", "field", "(I)Ljava/lang/String;"⟩ : MethodName)) (C := "com/example/fairgauge/fairgauge/io/CsvInput$Record") (z := (⟨"com/example/fairgauge/fairgauge/io/CsvInput$Record", "field", "(I)Ljava/lang/String;"⟩ : MethodName)) (argsL := [(.int (0 : Int32))]) (st := []) (W := 0) at_137 (hw _ (List.mem_of_getElem? (i := 110) rfl)) (hw _ (List.mem_of_getElem? (i := 111) rfl)) (fun s q => notFace_of_selects (args := #[]) (mvT q (hw _ (List.mem_of_getElem? (i := 113) rfl)))) (hw _ (List.mem_of_getElem? (i := 113) rfl)) (hw _ (List.mem_of_getElem? (i := 112) rfl)) n667 (hw _ (List.mem_of_getElem? (i := 96) rfl)) (hw _ (List.mem_of_getElem? (i := 114) rfl)) (by decide) pd_12 rfl (rm_fld hw b653 (0 : Int32) b588 b612 kb613 s565 [(.ref s565), (.ref s574), (.ref s583), .null, .null, .null, .null, .null, .null, .null] (3 : Int32) h663 n668 c669 c670 c671 c672 (by decide) (by decide) (by decide) rfl c673) (by decide) rfl (by decide) (by decide) (by decide) rfl rfl (fun v674 h675 J676 q677 => ?_)
      obtain ⟨rfl, rfl⟩ := q677
      show Wlk _ _ _ _ _ _ _ _ _ h663 12 39 140 #[.val (.int p1), .val (.int p2), .val (.int p3), .val (.int p4), .val (.int p5), .val (.int (3 : Int32)), .val (.int (0 : Int32)), .val (.ref s565), .val (.ref s574), .val (.ref s583), .val (.ref b588), .val (.ref b653), .val (.ref s565), .unset] [(.ref s565)]
      refine Wlk.astore (pc' := 142) (Ls' := #[.val (.int p1), .val (.int p2), .val (.int p3), .val (.int p4), .val (.int p5), .val (.int (3 : Int32)), .val (.int (0 : Int32)), .val (.ref s565), .val (.ref s574), .val (.ref s583), .val (.ref b588), .val (.ref b653), .val (.ref s565), .val (.ref s565)]) at_140 rfl rfl rfl rfl ?_
      refine Wlk.aload (pc' := 144) (v := (.ref s565)) at_142 rfl rfl rfl ?_
      refine Wlk.aload (pc' := 146) (v := (.ref s565)) at_144 rfl rfl rfl ?_
      refine Wlk.acmp (pc' := 149) (same := true) at_146 rfl rfl (decide_eq_true rfl) (by decide) (by decide) ?_
      refine Wlk.iconst (pc' := 150) (v := (1 : Int32)) at_149 rfl rfl ?_
      refine Wlk.goto (pc' := 154) at_150 (by decide) (by decide) ?_
      refine Wlk.ireturnN (t := .boolean) at_154 rfl (by simp) (by decide) (by decide) ?_
      exact rfl
    · skip
      refine Wlk.istore (pc' := 19) (Ls' := #[.val (.int p1), .val (.int p2), .val (.int p3), .val (.int p4), .val (.int p5), .val (.int (3 : Int32)), .val (.int (1 : Int32)), .unset, .unset, .unset, .unset, .unset, .unset, .unset]) at_17 rfl rfl rfl ?_
      refine Wlk.iloadN (pc' := 20) (v := p4) at_19 rfl rfl ?_
      refine Wlk.callS (pc' := 23) (z := (⟨"com/example/fairgauge/fairgauge/io/RecordFieldPinLaw", "drawn", "(I)Ljava/lang/String;"⟩ : MethodName)) (argsL := [(.int p4)]) (st := []) (W := 0) at_20 (hw _ (List.mem_of_getElem? (i := 1) rfl)) (hw _ (List.mem_of_getElem? (i := 2) rfl)) (hw _ (List.mem_of_getElem? (i := 3) rfl)) (hw _ (List.mem_of_getElem? (i := 4) rfl)) (by decide) pd_12 rfl (rm_drawn hw p4 zc h0 O2 P3) (by decide) rfl (by decide) (by decide) (by decide) rfl rfl (fun v678 h679 J680 q681 => ?_)
      obtain ⟨s682, rfl, le683, g684, K685, n686⟩ := q681
      show Wlk _ _ _ _ _ _ _ _ _ h679 3 8 23 #[.val (.int p1), .val (.int p2), .val (.int p3), .val (.int p4), .val (.int p5), .val (.int (3 : Int32)), .val (.int (1 : Int32)), .unset, .unset, .unset, .unset, .unset, .unset, .unset] [(.ref s682)]
      refine Wlk.astore (pc' := 25) (Ls' := #[.val (.int p1), .val (.int p2), .val (.int p3), .val (.int p4), .val (.int p5), .val (.int (3 : Int32)), .val (.int (1 : Int32)), .val (.ref s682), .unset, .unset, .unset, .unset, .unset, .unset]) at_23 rfl rfl rfl rfl ?_
      refine Wlk.iloadN (pc' := 26) (v := p4) at_25 rfl rfl ?_
      refine Wlk.bipush (pc' := 28) (v := (16 : Int32)) at_26 (by decide) rfl ?_
      refine Wlk.iushr (pc' := 29) at_28 rfl ?_
      refine Wlk.callS (pc' := 32) (z := (⟨"com/example/fairgauge/fairgauge/io/RecordFieldPinLaw", "drawn", "(I)Ljava/lang/String;"⟩ : MethodName)) (argsL := [(.int (((p4).toUInt32 >>> ((16 : Int32) &&& 31).toUInt32).toInt32))]) (st := []) (W := 0) at_29 (hw _ (List.mem_of_getElem? (i := 1) rfl)) (hw _ (List.mem_of_getElem? (i := 2) rfl)) (hw _ (List.mem_of_getElem? (i := 3) rfl)) (hw _ (List.mem_of_getElem? (i := 4) rfl)) (by decide) pd_12 rfl (rm_drawn hw (((p4).toUInt32 >>> ((16 : Int32) &&& 31).toUInt32).toInt32) zc h679 O2 P3) (by decide) rfl (by decide) (by decide) (by decide) rfl rfl (fun v687 h688 J689 q690 => ?_)
      obtain ⟨s691, rfl, le692, g693, K694, n695⟩ := q690
      show Wlk _ _ _ _ _ _ _ _ _ h688 6 16 32 #[.val (.int p1), .val (.int p2), .val (.int p3), .val (.int p4), .val (.int p5), .val (.int (3 : Int32)), .val (.int (1 : Int32)), .val (.ref s682), .unset, .unset, .unset, .unset, .unset, .unset] [(.ref s691)]
      refine Wlk.astore (pc' := 34) (Ls' := #[.val (.int p1), .val (.int p2), .val (.int p3), .val (.int p4), .val (.int p5), .val (.int (3 : Int32)), .val (.int (1 : Int32)), .val (.ref s682), .val (.ref s691), .unset, .unset, .unset, .unset, .unset]) at_32 rfl rfl rfl rfl ?_
      refine Wlk.iload (pc' := 36) (v := p5) at_34 rfl rfl ?_
      refine Wlk.callS (pc' := 39) (z := (⟨"com/example/fairgauge/fairgauge/io/RecordFieldPinLaw", "drawn", "(I)Ljava/lang/String;"⟩ : MethodName)) (argsL := [(.int p5)]) (st := []) (W := 0) at_36 (hw _ (List.mem_of_getElem? (i := 1) rfl)) (hw _ (List.mem_of_getElem? (i := 2) rfl)) (hw _ (List.mem_of_getElem? (i := 3) rfl)) (hw _ (List.mem_of_getElem? (i := 4) rfl)) (by decide) pd_12 rfl (rm_drawn hw p5 zc h688 O2 P3) (by decide) rfl (by decide) (by decide) (by decide) rfl rfl (fun v696 h697 J698 q699 => ?_)
      obtain ⟨s700, rfl, le701, g702, K703, n704⟩ := q699
      show Wlk _ _ _ _ _ _ _ _ _ h697 9 24 39 #[.val (.int p1), .val (.int p2), .val (.int p3), .val (.int p4), .val (.int p5), .val (.int (3 : Int32)), .val (.int (1 : Int32)), .val (.ref s682), .val (.ref s691), .unset, .unset, .unset, .unset, .unset] [(.ref s700)]
      refine Wlk.astore (pc' := 41) (Ls' := #[.val (.int p1), .val (.int p2), .val (.int p3), .val (.int p4), .val (.int p5), .val (.int (3 : Int32)), .val (.int (1 : Int32)), .val (.ref s682), .val (.ref s691), .val (.ref s700), .unset, .unset, .unset, .unset]) at_39 rfl rfl rfl rfl ?_
      refine Wlk.newO (pc' := 44) (C := "java/util/ArrayList") at_41 (hw _ (List.mem_of_getElem? (i := 35) rfl)) (hw _ (List.mem_of_getElem? (i := 36) rfl)) (hw _ (List.mem_of_getElem? (i := 37) rfl)) (by decide) (by decide) rfl (fun b705 h706 le707 g708 E709 A710 D711 => ?_)
      have F712 : Fld Z h706 b705 "java/util/AbstractList" "modCount" "I" (.int (0 : Int32)) := D711 (Or.inl (hw _ (List.mem_of_getElem? (i := 55) rfl))) (ty := .int) (by decide)
      have F713 : Fld Z h706 b705 "java/util/ArrayList" "elementData" "[Ljava/lang/Object;" .null := D711 (Or.inl (hw _ (List.mem_of_getElem? (i := 58) rfl))) (ty := (.array (.object "java/lang/Object"))) (by decide)
      have F714 : Fld Z h706 b705 "java/util/ArrayList" "size" "I" (.int (0 : Int32)) := D711 (Or.inl (hw _ (List.mem_of_getElem? (i := 71) rfl))) (ty := .int) (by decide)
      refine Wlk.dup (pc' := 45) at_44 rfl rfl ?_
      refine Wlk.callC (pc' := 48) (a := b705) (z := (⟨"java/util/ArrayList", "<init>", "()V"⟩ : MethodName)) (argsL := []) (st := [(.ref b705)]) (W := 1) at_45 (hw _ (List.mem_of_getElem? (i := 38) rfl)) (hw _ (List.mem_of_getElem? (i := 39) rfl)) (hw _ (List.mem_of_getElem? (i := 37) rfl)) (hw _ (List.mem_of_getElem? (i := 40) rfl)) (by decide) rfl pd_4 rfl (al_init hw b705 .null (0 : Int32) (0 : Int32) de h706 A710 F712 F713 F714 g708 SD) (by decide) rfl (by decide) (by decide) (by decide) rfl rfl (fun v715 h716 J717 q718 => ?_)
      obtain ⟨rfl, K719, n720, n721, n722, n723⟩ := q718
      show Wlk _ _ _ _ _ _ _ _ _ h716 10 27 48 #[.val (.int p1), .val (.int p2), .val (.int p3), .val (.int p4), .val (.int p5), .val (.int (3 : Int32)), .val (.int (1 : Int32)), .val (.ref s682), .val (.ref s691), .val (.ref s700), .unset, .unset, .unset, .unset] [(.ref b705)]
      refine Wlk.astore (pc' := 50) (Ls' := #[.val (.int p1), .val (.int p2), .val (.int p3), .val (.int p4), .val (.int p5), .val (.int (3 : Int32)), .val (.int (1 : Int32)), .val (.ref s682), .val (.ref s691), .val (.ref s700), .val (.ref b705), .unset, .unset, .unset]) at_48 rfl rfl rfl rfl ?_
      refine Wlk.aload (pc' := 52) (v := (.ref b705)) at_50 rfl rfl rfl ?_
      refine Wlk.aload (pc' := 54) (v := (.ref s682)) at_52 rfl rfl rfl ?_
      have c724 := ((((n686.keep K694).keep K703).ext E709).keep K719)
      refine Wlk.callI (pc' := 59) (a := b705) (x := (⟨"java/util/List", "add", "(Ljava/lang/Object;)Z"⟩ : MethodName)) (C := "java/util/ArrayList") (z := (⟨"java/util/ArrayList", "add", "(Ljava/lang/Object;)Z"⟩ : MethodName)) (argsL := [(.ref s682)]) (st := []) (W := 0) at_54 (hw _ (List.mem_of_getElem? (i := 59) rfl)) (hw _ (List.mem_of_getElem? (i := 60) rfl)) (fun s q => mvT q (hw _ (List.mem_of_getElem? (i := 61) rfl))) (hw _ (List.mem_of_getElem? (i := 62) rfl)) (hw _ (List.mem_of_getElem? (i := 63) rfl)) (hw _ (List.mem_of_getElem? (i := 64) rfl)) (hw _ (List.mem_of_getElem? (i := 65) rfl)) (hw _ (List.mem_of_getElem? (i := 66) rfl)) n720 (hw _ (List.mem_of_getElem? (i := 37) rfl)) (hw _ (List.mem_of_getElem? (i := 67) rfl)) (by decide) pd_13 rfl (al_add1 hw s682 b705 (0 : Int32) de _ h716 n720 n721 n722 n723 g708 SD D0 c724) (by decide) rfl (by decide) (by decide) (by decide) rfl rfl (fun v725 h726 J727 q728 => ?_)
      obtain ⟨b729, kb730, rfl, le731, g732, K733, n734, n735, n736, n737, n738, n739⟩ := q728
      show Wlk _ _ _ _ _ _ _ _ _ h726 11 37 59 #[.val (.int p1), .val (.int p2), .val (.int p3), .val (.int p4), .val (.int p5), .val (.int (3 : Int32)), .val (.int (1 : Int32)), .val (.ref s682), .val (.ref s691), .val (.ref s700), .val (.ref b705), .unset, .unset, .unset] [(.int (1 : Int32))]
      have A740 : Arv Z h726 b729 kb730 (.object "java/lang/Object") (10 : Int32) [(.ref s682), .null, .null, .null, .null, .null, .null, .null, .null, .null] .null := n738
      have F741 : Fld Z h726 b705 "java/util/ArrayList" "size" "I" (.int (1 : Int32)) := n737
      refine Wlk.pop (pc' := 60) at_59 rfl rfl ?_
      refine Wlk.iload (pc' := 62) (v := (3 : Int32)) at_60 rfl rfl ?_
      refine Wlk.iconst (pc' := 63) (v := (2 : Int32)) at_62 rfl rfl ?_
      refine Wlk.icF (pc' := 66) at_63 (show ¬ ((3 : Int32) < (2 : Int32)) from by decide) rfl ?_
      refine Wlk.aload (pc' := 68) (v := (.ref b705)) at_66 rfl rfl rfl ?_
      refine Wlk.aload (pc' := 70) (v := (.ref s691)) at_68 rfl rfl rfl ?_
      have c742 := ((((n695.keep K703).ext E709).keep K719).keep K733)
      refine Wlk.callI (pc' := 75) (a := b705) (x := (⟨"java/util/List", "add", "(Ljava/lang/Object;)Z"⟩ : MethodName)) (C := "java/util/ArrayList") (z := (⟨"java/util/ArrayList", "add", "(Ljava/lang/Object;)Z"⟩ : MethodName)) (argsL := [(.ref s691)]) (st := []) (W := 0) at_70 (hw _ (List.mem_of_getElem? (i := 59) rfl)) (hw _ (List.mem_of_getElem? (i := 60) rfl)) (fun s q => mvT q (hw _ (List.mem_of_getElem? (i := 61) rfl))) (hw _ (List.mem_of_getElem? (i := 62) rfl)) (hw _ (List.mem_of_getElem? (i := 63) rfl)) (hw _ (List.mem_of_getElem? (i := 64) rfl)) (hw _ (List.mem_of_getElem? (i := 65) rfl)) (hw _ (List.mem_of_getElem? (i := 66) rfl)) n734 (hw _ (List.mem_of_getElem? (i := 37) rfl)) (hw _ (List.mem_of_getElem? (i := 67) rfl)) (by decide) pd_13 rfl (al_add2 hw b705 s691 b729 kb730 1 ((0 : Int32) + 1) [(.ref s682), .null, .null, .null, .null, .null, .null, .null, .null, .null] h726 n734 n735 n736 F741 A740 n739 g708 g732 c742 (Nat.ne_of_lt (Nat.lt_of_lt_of_le A710.lt (Nat.le_trans K719.1 le731))) rfl (by decide)) (by decide) rfl (by decide) (by decide) (by decide) rfl rfl (fun v743 h744 J745 q746 => ?_)
      obtain ⟨rfl, K747, n748, n749, n750, n751, n752, n753⟩ := q746
      show Wlk _ _ _ _ _ _ _ _ _ h744 11 37 75 #[.val (.int p1), .val (.int p2), .val (.int p3), .val (.int p4), .val (.int p5), .val (.int (3 : Int32)), .val (.int (1 : Int32)), .val (.ref s682), .val (.ref s691), .val (.ref s700), .val (.ref b705), .unset, .unset, .unset] [(.int (1 : Int32))]
      have A754 : Arv Z h744 b729 kb730 (.object "java/lang/Object") (10 : Int32) [(.ref s682), (.ref s691), .null, .null, .null, .null, .null, .null, .null, .null] .null := n752
      have F755 : Fld Z h744 b705 "java/util/ArrayList" "size" "I" (.int (2 : Int32)) := n751
      refine Wlk.pop (pc' := 76) at_75 rfl rfl ?_
      refine Wlk.iload (pc' := 78) (v := (3 : Int32)) at_76 rfl rfl ?_
      refine Wlk.iconst (pc' := 79) (v := (3 : Int32)) at_78 rfl rfl ?_
      refine Wlk.icF (pc' := 82) at_79 (show ¬ ((3 : Int32) < (3 : Int32)) from by decide) rfl ?_
      refine Wlk.aload (pc' := 84) (v := (.ref b705)) at_82 rfl rfl rfl ?_
      refine Wlk.aload (pc' := 86) (v := (.ref s700)) at_84 rfl rfl rfl ?_
      have c756 := ((((n704.ext E709).keep K719).keep K733).keep K747)
      refine Wlk.callI (pc' := 91) (a := b705) (x := (⟨"java/util/List", "add", "(Ljava/lang/Object;)Z"⟩ : MethodName)) (C := "java/util/ArrayList") (z := (⟨"java/util/ArrayList", "add", "(Ljava/lang/Object;)Z"⟩ : MethodName)) (argsL := [(.ref s700)]) (st := []) (W := 0) at_86 (hw _ (List.mem_of_getElem? (i := 59) rfl)) (hw _ (List.mem_of_getElem? (i := 60) rfl)) (fun s q => mvT q (hw _ (List.mem_of_getElem? (i := 61) rfl))) (hw _ (List.mem_of_getElem? (i := 62) rfl)) (hw _ (List.mem_of_getElem? (i := 63) rfl)) (hw _ (List.mem_of_getElem? (i := 64) rfl)) (hw _ (List.mem_of_getElem? (i := 65) rfl)) (hw _ (List.mem_of_getElem? (i := 66) rfl)) n748 (hw _ (List.mem_of_getElem? (i := 37) rfl)) (hw _ (List.mem_of_getElem? (i := 67) rfl)) (by decide) pd_13 rfl (al_add2 hw b705 s700 b729 kb730 2 (((0 : Int32) + 1) + 1) [(.ref s682), (.ref s691), .null, .null, .null, .null, .null, .null, .null, .null] h744 n748 n749 n750 F755 A754 n753 g708 g732 c756 (Nat.ne_of_lt (Nat.lt_of_lt_of_le A710.lt (Nat.le_trans K719.1 le731))) rfl (by decide)) (by decide) rfl (by decide) (by decide) (by decide) rfl rfl (fun v757 h758 J759 q760 => ?_)
      obtain ⟨rfl, K761, n762, n763, n764, n765, n766, n767⟩ := q760
      show Wlk _ _ _ _ _ _ _ _ _ h758 11 37 91 #[.val (.int p1), .val (.int p2), .val (.int p3), .val (.int p4), .val (.int p5), .val (.int (3 : Int32)), .val (.int (1 : Int32)), .val (.ref s682), .val (.ref s691), .val (.ref s700), .val (.ref b705), .unset, .unset, .unset] [(.int (1 : Int32))]
      have A768 : Arv Z h758 b729 kb730 (.object "java/lang/Object") (10 : Int32) [(.ref s682), (.ref s691), (.ref s700), .null, .null, .null, .null, .null, .null, .null] .null := n766
      have F769 : Fld Z h758 b705 "java/util/ArrayList" "size" "I" (.int (3 : Int32)) := n765
      refine Wlk.pop (pc' := 92) at_91 rfl rfl ?_
      refine Wlk.newO (pc' := 95) (C := "com/example/fairgauge/fairgauge/io/CsvInput$Record") at_92 (hw _ (List.mem_of_getElem? (i := 94) rfl)) (hw _ (List.mem_of_getElem? (i := 95) rfl)) (hw _ (List.mem_of_getElem? (i := 96) rfl)) (by decide) (by decide) rfl (fun b770 h771 le772 g773 E774 A775 D776 => ?_)
      have F777 : Fld Z h771 b770 "com/example/fairgauge/fairgauge/io/CsvInput$Record" "line" "I" (.int (0 : Int32)) := D776 (Or.inr (hw _ (List.mem_of_getElem? (i := 107) rfl))) (ty := .int) (by decide)
      have F778 : Fld Z h771 b770 "com/example/fairgauge/fairgauge/io/CsvInput$Record" "fields" "Ljava/util/List;" .null := D776 (Or.inr (hw _ (List.mem_of_getElem? (i := 109) rfl))) (ty := (.object "java/util/List")) (by decide)
      refine Wlk.dup (pc' := 96) at_95 rfl rfl ?_
      refine Wlk.iloadN (pc' := 97) (v := p1) at_96 rfl rfl ?_
      refine Wlk.aload (pc' := 99) (v := (.ref b705)) at_97 rfl rfl rfl ?_
      refine Wlk.callC (pc' := 102) (a := b770) (z := (⟨"com/example/fairgauge/fairgauge/io/CsvInput$Record", "<init>", "(ILjava/util/List;)V"⟩ : MethodName)) (argsL := [(.int p1), (.ref b705)]) (st := [(.ref b770)]) (W := 1) at_99 (hw _ (List.mem_of_getElem? (i := 97) rfl)) (hw _ (List.mem_of_getElem? (i := 98) rfl)) (hw _ (List.mem_of_getElem? (i := 96) rfl)) (hw _ (List.mem_of_getElem? (i := 99) rfl)) (by decide) rfl pd_14 rfl (rm_rec hw b770 p1 b705 (.int (0 : Int32)) .null h771 A775 F777 F778 g773) (by decide) rfl (by decide) (by decide) (by decide) rfl rfl (fun v779 h780 J781 q782 => ?_)
      obtain ⟨rfl, K783, n784, n785⟩ := q782
      show Wlk _ _ _ _ _ _ _ _ _ h780 12 39 102 #[.val (.int p1), .val (.int p2), .val (.int p3), .val (.int p4), .val (.int p5), .val (.int (3 : Int32)), .val (.int (1 : Int32)), .val (.ref s682), .val (.ref s691), .val (.ref s700), .val (.ref b705), .unset, .unset, .unset] [(.ref b770)]
      refine Wlk.astore (pc' := 104) (Ls' := #[.val (.int p1), .val (.int p2), .val (.int p3), .val (.int p4), .val (.int p5), .val (.int (3 : Int32)), .val (.int (1 : Int32)), .val (.ref s682), .val (.ref s691), .val (.ref s700), .val (.ref b705), .val (.ref b770), .unset, .unset]) at_102 rfl rfl rfl rfl ?_
      refine Wlk.iload (pc' := 106) (v := (1 : Int32)) at_104 rfl rfl ?_
      refine Wlk.ifT (pc' := 116) at_106 (by decide) (by decide) (show ¬ ((1 : Int32) = (0 : Int32)) from by decide) ?_
      refine Wlk.iload (pc' := 118) (v := (1 : Int32)) at_116 rfl rfl ?_
      refine Wlk.iconst (pc' := 119) (v := (1 : Int32)) at_118 rfl rfl ?_
      refine Wlk.icF (pc' := 122) at_119 (show (1 : Int32) = (1 : Int32) from by decide) rfl ?_
      refine Wlk.aload (pc' := 124) (v := (.ref s691)) at_122 rfl rfl rfl ?_
      refine Wlk.astore (pc' := 126) (Ls' := #[.val (.int p1), .val (.int p2), .val (.int p3), .val (.int p4), .val (.int p5), .val (.int (3 : Int32)), .val (.int (1 : Int32)), .val (.ref s682), .val (.ref s691), .val (.ref s700), .val (.ref b705), .val (.ref b770), .val (.ref s691), .unset]) at_124 rfl rfl rfl rfl ?_
      refine Wlk.goto (pc' := 133) at_126 (by decide) (by decide) ?_
      refine Wlk.aload (pc' := 135) (v := (.ref b770)) at_133 rfl rfl rfl ?_
      refine Wlk.iload (pc' := 137) (v := (1 : Int32)) at_135 rfl rfl ?_
      have c786 := ((n762.ext E774).keep K783)
      have c787 := ((n764.ext E774).keep K783 (ninS (Nat.ne_of_lt (Nat.lt_of_lt_of_le A710.lt (Nat.le_trans (Nat.le_trans (Nat.le_trans (Nat.le_trans K719.1 K733.1) K747.1) K761.1) le772))) nin0))
      have c788 := ((F769.ext E774).keep K783 (ninS (Nat.ne_of_lt (Nat.lt_of_lt_of_le A710.lt (Nat.le_trans (Nat.le_trans (Nat.le_trans (Nat.le_trans K719.1 K733.1) K747.1) K761.1) le772))) nin0))
      have c789 := ((A768.ext E774).keep K783 (ninS (Nat.ne_of_lt (Nat.lt_of_lt_of_le n738.lt (Nat.le_trans (Nat.le_trans K747.1 K761.1) le772))) nin0))
      have c790 := ((((c742.keep K747).keep K761).ext E774).keep K783)
      refine Wlk.callV (pc' := 140) (a := b770) (x := (⟨"com/example/fairgauge/fairgauge/io/CsvInput$Record", "field", "(I)Ljava/lang/String;"⟩ : MethodName)) (C := "com/example/fairgauge/fairgauge/io/CsvInput$Record") (z := (⟨"com/example/fairgauge/fairgauge/io/CsvInput$Record", "field", "(I)Ljava/lang/String;"⟩ : MethodName)) (argsL := [(.int (1 : Int32))]) (st := []) (W := 0) at_137 (hw _ (List.mem_of_getElem? (i := 110) rfl)) (hw _ (List.mem_of_getElem? (i := 111) rfl)) (fun s q => notFace_of_selects (args := #[]) (mvT q (hw _ (List.mem_of_getElem? (i := 113) rfl)))) (hw _ (List.mem_of_getElem? (i := 113) rfl)) (hw _ (List.mem_of_getElem? (i := 112) rfl)) n784 (hw _ (List.mem_of_getElem? (i := 96) rfl)) (hw _ (List.mem_of_getElem? (i := 114) rfl)) (by decide) pd_12 rfl (rm_fld hw b770 (1 : Int32) b705 b729 kb730 s691 [(.ref s682), (.ref s691), (.ref s700), .null, .null, .null, .null, .null, .null, .null] (3 : Int32) h780 n785 c786 c787 c788 c789 (by decide) (by decide) (by decide) rfl c790) (by decide) rfl (by decide) (by decide) (by decide) rfl rfl (fun v791 h792 J793 q794 => ?_)
      obtain ⟨rfl, rfl⟩ := q794
      show Wlk _ _ _ _ _ _ _ _ _ h780 12 39 140 #[.val (.int p1), .val (.int p2), .val (.int p3), .val (.int p4), .val (.int p5), .val (.int (3 : Int32)), .val (.int (1 : Int32)), .val (.ref s682), .val (.ref s691), .val (.ref s700), .val (.ref b705), .val (.ref b770), .val (.ref s691), .unset] [(.ref s691)]
      refine Wlk.astore (pc' := 142) (Ls' := #[.val (.int p1), .val (.int p2), .val (.int p3), .val (.int p4), .val (.int p5), .val (.int (3 : Int32)), .val (.int (1 : Int32)), .val (.ref s682), .val (.ref s691), .val (.ref s700), .val (.ref b705), .val (.ref b770), .val (.ref s691), .val (.ref s691)]) at_140 rfl rfl rfl rfl ?_
      refine Wlk.aload (pc' := 144) (v := (.ref s691)) at_142 rfl rfl rfl ?_
      refine Wlk.aload (pc' := 146) (v := (.ref s691)) at_144 rfl rfl rfl ?_
      refine Wlk.acmp (pc' := 149) (same := true) at_146 rfl rfl (decide_eq_true rfl) (by decide) (by decide) ?_
      refine Wlk.iconst (pc' := 150) (v := (1 : Int32)) at_149 rfl rfl ?_
      refine Wlk.goto (pc' := 154) at_150 (by decide) (by decide) ?_
      refine Wlk.ireturnN (t := .boolean) at_154 rfl (by simp) (by decide) (by decide) ?_
      exact rfl
    · skip
      refine Wlk.istore (pc' := 19) (Ls' := #[.val (.int p1), .val (.int p2), .val (.int p3), .val (.int p4), .val (.int p5), .val (.int (3 : Int32)), .val (.int (2 : Int32)), .unset, .unset, .unset, .unset, .unset, .unset, .unset]) at_17 rfl rfl rfl ?_
      refine Wlk.iloadN (pc' := 20) (v := p4) at_19 rfl rfl ?_
      refine Wlk.callS (pc' := 23) (z := (⟨"com/example/fairgauge/fairgauge/io/RecordFieldPinLaw", "drawn", "(I)Ljava/lang/String;"⟩ : MethodName)) (argsL := [(.int p4)]) (st := []) (W := 0) at_20 (hw _ (List.mem_of_getElem? (i := 1) rfl)) (hw _ (List.mem_of_getElem? (i := 2) rfl)) (hw _ (List.mem_of_getElem? (i := 3) rfl)) (hw _ (List.mem_of_getElem? (i := 4) rfl)) (by decide) pd_12 rfl (rm_drawn hw p4 zc h0 O2 P3) (by decide) rfl (by decide) (by decide) (by decide) rfl rfl (fun v795 h796 J797 q798 => ?_)
      obtain ⟨s799, rfl, le800, g801, K802, n803⟩ := q798
      show Wlk _ _ _ _ _ _ _ _ _ h796 3 8 23 #[.val (.int p1), .val (.int p2), .val (.int p3), .val (.int p4), .val (.int p5), .val (.int (3 : Int32)), .val (.int (2 : Int32)), .unset, .unset, .unset, .unset, .unset, .unset, .unset] [(.ref s799)]
      refine Wlk.astore (pc' := 25) (Ls' := #[.val (.int p1), .val (.int p2), .val (.int p3), .val (.int p4), .val (.int p5), .val (.int (3 : Int32)), .val (.int (2 : Int32)), .val (.ref s799), .unset, .unset, .unset, .unset, .unset, .unset]) at_23 rfl rfl rfl rfl ?_
      refine Wlk.iloadN (pc' := 26) (v := p4) at_25 rfl rfl ?_
      refine Wlk.bipush (pc' := 28) (v := (16 : Int32)) at_26 (by decide) rfl ?_
      refine Wlk.iushr (pc' := 29) at_28 rfl ?_
      refine Wlk.callS (pc' := 32) (z := (⟨"com/example/fairgauge/fairgauge/io/RecordFieldPinLaw", "drawn", "(I)Ljava/lang/String;"⟩ : MethodName)) (argsL := [(.int (((p4).toUInt32 >>> ((16 : Int32) &&& 31).toUInt32).toInt32))]) (st := []) (W := 0) at_29 (hw _ (List.mem_of_getElem? (i := 1) rfl)) (hw _ (List.mem_of_getElem? (i := 2) rfl)) (hw _ (List.mem_of_getElem? (i := 3) rfl)) (hw _ (List.mem_of_getElem? (i := 4) rfl)) (by decide) pd_12 rfl (rm_drawn hw (((p4).toUInt32 >>> ((16 : Int32) &&& 31).toUInt32).toInt32) zc h796 O2 P3) (by decide) rfl (by decide) (by decide) (by decide) rfl rfl (fun v804 h805 J806 q807 => ?_)
      obtain ⟨s808, rfl, le809, g810, K811, n812⟩ := q807
      show Wlk _ _ _ _ _ _ _ _ _ h805 6 16 32 #[.val (.int p1), .val (.int p2), .val (.int p3), .val (.int p4), .val (.int p5), .val (.int (3 : Int32)), .val (.int (2 : Int32)), .val (.ref s799), .unset, .unset, .unset, .unset, .unset, .unset] [(.ref s808)]
      refine Wlk.astore (pc' := 34) (Ls' := #[.val (.int p1), .val (.int p2), .val (.int p3), .val (.int p4), .val (.int p5), .val (.int (3 : Int32)), .val (.int (2 : Int32)), .val (.ref s799), .val (.ref s808), .unset, .unset, .unset, .unset, .unset]) at_32 rfl rfl rfl rfl ?_
      refine Wlk.iload (pc' := 36) (v := p5) at_34 rfl rfl ?_
      refine Wlk.callS (pc' := 39) (z := (⟨"com/example/fairgauge/fairgauge/io/RecordFieldPinLaw", "drawn", "(I)Ljava/lang/String;"⟩ : MethodName)) (argsL := [(.int p5)]) (st := []) (W := 0) at_36 (hw _ (List.mem_of_getElem? (i := 1) rfl)) (hw _ (List.mem_of_getElem? (i := 2) rfl)) (hw _ (List.mem_of_getElem? (i := 3) rfl)) (hw _ (List.mem_of_getElem? (i := 4) rfl)) (by decide) pd_12 rfl (rm_drawn hw p5 zc h805 O2 P3) (by decide) rfl (by decide) (by decide) (by decide) rfl rfl (fun v813 h814 J815 q816 => ?_)
      obtain ⟨s817, rfl, le818, g819, K820, n821⟩ := q816
      show Wlk _ _ _ _ _ _ _ _ _ h814 9 24 39 #[.val (.int p1), .val (.int p2), .val (.int p3), .val (.int p4), .val (.int p5), .val (.int (3 : Int32)), .val (.int (2 : Int32)), .val (.ref s799), .val (.ref s808), .unset, .unset, .unset, .unset, .unset] [(.ref s817)]
      refine Wlk.astore (pc' := 41) (Ls' := #[.val (.int p1), .val (.int p2), .val (.int p3), .val (.int p4), .val (.int p5), .val (.int (3 : Int32)), .val (.int (2 : Int32)), .val (.ref s799), .val (.ref s808), .val (.ref s817), .unset, .unset, .unset, .unset]) at_39 rfl rfl rfl rfl ?_
      refine Wlk.newO (pc' := 44) (C := "java/util/ArrayList") at_41 (hw _ (List.mem_of_getElem? (i := 35) rfl)) (hw _ (List.mem_of_getElem? (i := 36) rfl)) (hw _ (List.mem_of_getElem? (i := 37) rfl)) (by decide) (by decide) rfl (fun b822 h823 le824 g825 E826 A827 D828 => ?_)
      have F829 : Fld Z h823 b822 "java/util/AbstractList" "modCount" "I" (.int (0 : Int32)) := D828 (Or.inl (hw _ (List.mem_of_getElem? (i := 55) rfl))) (ty := .int) (by decide)
      have F830 : Fld Z h823 b822 "java/util/ArrayList" "elementData" "[Ljava/lang/Object;" .null := D828 (Or.inl (hw _ (List.mem_of_getElem? (i := 58) rfl))) (ty := (.array (.object "java/lang/Object"))) (by decide)
      have F831 : Fld Z h823 b822 "java/util/ArrayList" "size" "I" (.int (0 : Int32)) := D828 (Or.inl (hw _ (List.mem_of_getElem? (i := 71) rfl))) (ty := .int) (by decide)
      refine Wlk.dup (pc' := 45) at_44 rfl rfl ?_
      refine Wlk.callC (pc' := 48) (a := b822) (z := (⟨"java/util/ArrayList", "<init>", "()V"⟩ : MethodName)) (argsL := []) (st := [(.ref b822)]) (W := 1) at_45 (hw _ (List.mem_of_getElem? (i := 38) rfl)) (hw _ (List.mem_of_getElem? (i := 39) rfl)) (hw _ (List.mem_of_getElem? (i := 37) rfl)) (hw _ (List.mem_of_getElem? (i := 40) rfl)) (by decide) rfl pd_4 rfl (al_init hw b822 .null (0 : Int32) (0 : Int32) de h823 A827 F829 F830 F831 g825 SD) (by decide) rfl (by decide) (by decide) (by decide) rfl rfl (fun v832 h833 J834 q835 => ?_)
      obtain ⟨rfl, K836, n837, n838, n839, n840⟩ := q835
      show Wlk _ _ _ _ _ _ _ _ _ h833 10 27 48 #[.val (.int p1), .val (.int p2), .val (.int p3), .val (.int p4), .val (.int p5), .val (.int (3 : Int32)), .val (.int (2 : Int32)), .val (.ref s799), .val (.ref s808), .val (.ref s817), .unset, .unset, .unset, .unset] [(.ref b822)]
      refine Wlk.astore (pc' := 50) (Ls' := #[.val (.int p1), .val (.int p2), .val (.int p3), .val (.int p4), .val (.int p5), .val (.int (3 : Int32)), .val (.int (2 : Int32)), .val (.ref s799), .val (.ref s808), .val (.ref s817), .val (.ref b822), .unset, .unset, .unset]) at_48 rfl rfl rfl rfl ?_
      refine Wlk.aload (pc' := 52) (v := (.ref b822)) at_50 rfl rfl rfl ?_
      refine Wlk.aload (pc' := 54) (v := (.ref s799)) at_52 rfl rfl rfl ?_
      have c841 := ((((n803.keep K811).keep K820).ext E826).keep K836)
      refine Wlk.callI (pc' := 59) (a := b822) (x := (⟨"java/util/List", "add", "(Ljava/lang/Object;)Z"⟩ : MethodName)) (C := "java/util/ArrayList") (z := (⟨"java/util/ArrayList", "add", "(Ljava/lang/Object;)Z"⟩ : MethodName)) (argsL := [(.ref s799)]) (st := []) (W := 0) at_54 (hw _ (List.mem_of_getElem? (i := 59) rfl)) (hw _ (List.mem_of_getElem? (i := 60) rfl)) (fun s q => mvT q (hw _ (List.mem_of_getElem? (i := 61) rfl))) (hw _ (List.mem_of_getElem? (i := 62) rfl)) (hw _ (List.mem_of_getElem? (i := 63) rfl)) (hw _ (List.mem_of_getElem? (i := 64) rfl)) (hw _ (List.mem_of_getElem? (i := 65) rfl)) (hw _ (List.mem_of_getElem? (i := 66) rfl)) n837 (hw _ (List.mem_of_getElem? (i := 37) rfl)) (hw _ (List.mem_of_getElem? (i := 67) rfl)) (by decide) pd_13 rfl (al_add1 hw s799 b822 (0 : Int32) de _ h833 n837 n838 n839 n840 g825 SD D0 c841) (by decide) rfl (by decide) (by decide) (by decide) rfl rfl (fun v842 h843 J844 q845 => ?_)
      obtain ⟨b846, kb847, rfl, le848, g849, K850, n851, n852, n853, n854, n855, n856⟩ := q845
      show Wlk _ _ _ _ _ _ _ _ _ h843 11 37 59 #[.val (.int p1), .val (.int p2), .val (.int p3), .val (.int p4), .val (.int p5), .val (.int (3 : Int32)), .val (.int (2 : Int32)), .val (.ref s799), .val (.ref s808), .val (.ref s817), .val (.ref b822), .unset, .unset, .unset] [(.int (1 : Int32))]
      have A857 : Arv Z h843 b846 kb847 (.object "java/lang/Object") (10 : Int32) [(.ref s799), .null, .null, .null, .null, .null, .null, .null, .null, .null] .null := n855
      have F858 : Fld Z h843 b822 "java/util/ArrayList" "size" "I" (.int (1 : Int32)) := n854
      refine Wlk.pop (pc' := 60) at_59 rfl rfl ?_
      refine Wlk.iload (pc' := 62) (v := (3 : Int32)) at_60 rfl rfl ?_
      refine Wlk.iconst (pc' := 63) (v := (2 : Int32)) at_62 rfl rfl ?_
      refine Wlk.icF (pc' := 66) at_63 (show ¬ ((3 : Int32) < (2 : Int32)) from by decide) rfl ?_
      refine Wlk.aload (pc' := 68) (v := (.ref b822)) at_66 rfl rfl rfl ?_
      refine Wlk.aload (pc' := 70) (v := (.ref s808)) at_68 rfl rfl rfl ?_
      have c859 := ((((n812.keep K820).ext E826).keep K836).keep K850)
      refine Wlk.callI (pc' := 75) (a := b822) (x := (⟨"java/util/List", "add", "(Ljava/lang/Object;)Z"⟩ : MethodName)) (C := "java/util/ArrayList") (z := (⟨"java/util/ArrayList", "add", "(Ljava/lang/Object;)Z"⟩ : MethodName)) (argsL := [(.ref s808)]) (st := []) (W := 0) at_70 (hw _ (List.mem_of_getElem? (i := 59) rfl)) (hw _ (List.mem_of_getElem? (i := 60) rfl)) (fun s q => mvT q (hw _ (List.mem_of_getElem? (i := 61) rfl))) (hw _ (List.mem_of_getElem? (i := 62) rfl)) (hw _ (List.mem_of_getElem? (i := 63) rfl)) (hw _ (List.mem_of_getElem? (i := 64) rfl)) (hw _ (List.mem_of_getElem? (i := 65) rfl)) (hw _ (List.mem_of_getElem? (i := 66) rfl)) n851 (hw _ (List.mem_of_getElem? (i := 37) rfl)) (hw _ (List.mem_of_getElem? (i := 67) rfl)) (by decide) pd_13 rfl (al_add2 hw b822 s808 b846 kb847 1 ((0 : Int32) + 1) [(.ref s799), .null, .null, .null, .null, .null, .null, .null, .null, .null] h843 n851 n852 n853 F858 A857 n856 g825 g849 c859 (Nat.ne_of_lt (Nat.lt_of_lt_of_le A827.lt (Nat.le_trans K836.1 le848))) rfl (by decide)) (by decide) rfl (by decide) (by decide) (by decide) rfl rfl (fun v860 h861 J862 q863 => ?_)
      obtain ⟨rfl, K864, n865, n866, n867, n868, n869, n870⟩ := q863
      show Wlk _ _ _ _ _ _ _ _ _ h861 11 37 75 #[.val (.int p1), .val (.int p2), .val (.int p3), .val (.int p4), .val (.int p5), .val (.int (3 : Int32)), .val (.int (2 : Int32)), .val (.ref s799), .val (.ref s808), .val (.ref s817), .val (.ref b822), .unset, .unset, .unset] [(.int (1 : Int32))]
      have A871 : Arv Z h861 b846 kb847 (.object "java/lang/Object") (10 : Int32) [(.ref s799), (.ref s808), .null, .null, .null, .null, .null, .null, .null, .null] .null := n869
      have F872 : Fld Z h861 b822 "java/util/ArrayList" "size" "I" (.int (2 : Int32)) := n868
      refine Wlk.pop (pc' := 76) at_75 rfl rfl ?_
      refine Wlk.iload (pc' := 78) (v := (3 : Int32)) at_76 rfl rfl ?_
      refine Wlk.iconst (pc' := 79) (v := (3 : Int32)) at_78 rfl rfl ?_
      refine Wlk.icF (pc' := 82) at_79 (show ¬ ((3 : Int32) < (3 : Int32)) from by decide) rfl ?_
      refine Wlk.aload (pc' := 84) (v := (.ref b822)) at_82 rfl rfl rfl ?_
      refine Wlk.aload (pc' := 86) (v := (.ref s817)) at_84 rfl rfl rfl ?_
      have c873 := ((((n821.ext E826).keep K836).keep K850).keep K864)
      refine Wlk.callI (pc' := 91) (a := b822) (x := (⟨"java/util/List", "add", "(Ljava/lang/Object;)Z"⟩ : MethodName)) (C := "java/util/ArrayList") (z := (⟨"java/util/ArrayList", "add", "(Ljava/lang/Object;)Z"⟩ : MethodName)) (argsL := [(.ref s817)]) (st := []) (W := 0) at_86 (hw _ (List.mem_of_getElem? (i := 59) rfl)) (hw _ (List.mem_of_getElem? (i := 60) rfl)) (fun s q => mvT q (hw _ (List.mem_of_getElem? (i := 61) rfl))) (hw _ (List.mem_of_getElem? (i := 62) rfl)) (hw _ (List.mem_of_getElem? (i := 63) rfl)) (hw _ (List.mem_of_getElem? (i := 64) rfl)) (hw _ (List.mem_of_getElem? (i := 65) rfl)) (hw _ (List.mem_of_getElem? (i := 66) rfl)) n865 (hw _ (List.mem_of_getElem? (i := 37) rfl)) (hw _ (List.mem_of_getElem? (i := 67) rfl)) (by decide) pd_13 rfl (al_add2 hw b822 s817 b846 kb847 2 (((0 : Int32) + 1) + 1) [(.ref s799), (.ref s808), .null, .null, .null, .null, .null, .null, .null, .null] h861 n865 n866 n867 F872 A871 n870 g825 g849 c873 (Nat.ne_of_lt (Nat.lt_of_lt_of_le A827.lt (Nat.le_trans K836.1 le848))) rfl (by decide)) (by decide) rfl (by decide) (by decide) (by decide) rfl rfl (fun v874 h875 J876 q877 => ?_)
      obtain ⟨rfl, K878, n879, n880, n881, n882, n883, n884⟩ := q877
      show Wlk _ _ _ _ _ _ _ _ _ h875 11 37 91 #[.val (.int p1), .val (.int p2), .val (.int p3), .val (.int p4), .val (.int p5), .val (.int (3 : Int32)), .val (.int (2 : Int32)), .val (.ref s799), .val (.ref s808), .val (.ref s817), .val (.ref b822), .unset, .unset, .unset] [(.int (1 : Int32))]
      have A885 : Arv Z h875 b846 kb847 (.object "java/lang/Object") (10 : Int32) [(.ref s799), (.ref s808), (.ref s817), .null, .null, .null, .null, .null, .null, .null] .null := n883
      have F886 : Fld Z h875 b822 "java/util/ArrayList" "size" "I" (.int (3 : Int32)) := n882
      refine Wlk.pop (pc' := 92) at_91 rfl rfl ?_
      refine Wlk.newO (pc' := 95) (C := "com/example/fairgauge/fairgauge/io/CsvInput$Record") at_92 (hw _ (List.mem_of_getElem? (i := 94) rfl)) (hw _ (List.mem_of_getElem? (i := 95) rfl)) (hw _ (List.mem_of_getElem? (i := 96) rfl)) (by decide) (by decide) rfl (fun b887 h888 le889 g890 E891 A892 D893 => ?_)
      have F894 : Fld Z h888 b887 "com/example/fairgauge/fairgauge/io/CsvInput$Record" "line" "I" (.int (0 : Int32)) := D893 (Or.inr (hw _ (List.mem_of_getElem? (i := 107) rfl))) (ty := .int) (by decide)
      have F895 : Fld Z h888 b887 "com/example/fairgauge/fairgauge/io/CsvInput$Record" "fields" "Ljava/util/List;" .null := D893 (Or.inr (hw _ (List.mem_of_getElem? (i := 109) rfl))) (ty := (.object "java/util/List")) (by decide)
      refine Wlk.dup (pc' := 96) at_95 rfl rfl ?_
      refine Wlk.iloadN (pc' := 97) (v := p1) at_96 rfl rfl ?_
      refine Wlk.aload (pc' := 99) (v := (.ref b822)) at_97 rfl rfl rfl ?_
      refine Wlk.callC (pc' := 102) (a := b887) (z := (⟨"com/example/fairgauge/fairgauge/io/CsvInput$Record", "<init>", "(ILjava/util/List;)V"⟩ : MethodName)) (argsL := [(.int p1), (.ref b822)]) (st := [(.ref b887)]) (W := 1) at_99 (hw _ (List.mem_of_getElem? (i := 97) rfl)) (hw _ (List.mem_of_getElem? (i := 98) rfl)) (hw _ (List.mem_of_getElem? (i := 96) rfl)) (hw _ (List.mem_of_getElem? (i := 99) rfl)) (by decide) rfl pd_14 rfl (rm_rec hw b887 p1 b822 (.int (0 : Int32)) .null h888 A892 F894 F895 g890) (by decide) rfl (by decide) (by decide) (by decide) rfl rfl (fun v896 h897 J898 q899 => ?_)
      obtain ⟨rfl, K900, n901, n902⟩ := q899
      show Wlk _ _ _ _ _ _ _ _ _ h897 12 39 102 #[.val (.int p1), .val (.int p2), .val (.int p3), .val (.int p4), .val (.int p5), .val (.int (3 : Int32)), .val (.int (2 : Int32)), .val (.ref s799), .val (.ref s808), .val (.ref s817), .val (.ref b822), .unset, .unset, .unset] [(.ref b887)]
      refine Wlk.astore (pc' := 104) (Ls' := #[.val (.int p1), .val (.int p2), .val (.int p3), .val (.int p4), .val (.int p5), .val (.int (3 : Int32)), .val (.int (2 : Int32)), .val (.ref s799), .val (.ref s808), .val (.ref s817), .val (.ref b822), .val (.ref b887), .unset, .unset]) at_102 rfl rfl rfl rfl ?_
      refine Wlk.iload (pc' := 106) (v := (2 : Int32)) at_104 rfl rfl ?_
      refine Wlk.ifT (pc' := 116) at_106 (by decide) (by decide) (show ¬ ((2 : Int32) = (0 : Int32)) from by decide) ?_
      refine Wlk.iload (pc' := 118) (v := (2 : Int32)) at_116 rfl rfl ?_
      refine Wlk.iconst (pc' := 119) (v := (1 : Int32)) at_118 rfl rfl ?_
      refine Wlk.icT (pc' := 129) at_119 (by decide) (by decide) (show ¬ ((2 : Int32) = (1 : Int32)) from by decide) ?_
      refine Wlk.aload (pc' := 131) (v := (.ref s817)) at_129 rfl rfl rfl ?_
      refine Wlk.astore (pc' := 133) (Ls' := #[.val (.int p1), .val (.int p2), .val (.int p3), .val (.int p4), .val (.int p5), .val (.int (3 : Int32)), .val (.int (2 : Int32)), .val (.ref s799), .val (.ref s808), .val (.ref s817), .val (.ref b822), .val (.ref b887), .val (.ref s817), .unset]) at_131 rfl rfl rfl rfl ?_
      refine Wlk.aload (pc' := 135) (v := (.ref b887)) at_133 rfl rfl rfl ?_
      refine Wlk.iload (pc' := 137) (v := (2 : Int32)) at_135 rfl rfl ?_
      have c903 := ((n879.ext E891).keep K900)
      have c904 := ((n881.ext E891).keep K900 (ninS (Nat.ne_of_lt (Nat.lt_of_lt_of_le A827.lt (Nat.le_trans (Nat.le_trans (Nat.le_trans (Nat.le_trans K836.1 K850.1) K864.1) K878.1) le889))) nin0))
      have c905 := ((F886.ext E891).keep K900 (ninS (Nat.ne_of_lt (Nat.lt_of_lt_of_le A827.lt (Nat.le_trans (Nat.le_trans (Nat.le_trans (Nat.le_trans K836.1 K850.1) K864.1) K878.1) le889))) nin0))
      have c906 := ((A885.ext E891).keep K900 (ninS (Nat.ne_of_lt (Nat.lt_of_lt_of_le n855.lt (Nat.le_trans (Nat.le_trans K864.1 K878.1) le889))) nin0))
      have c907 := (((c873.keep K878).ext E891).keep K900)
      refine Wlk.callV (pc' := 140) (a := b887) (x := (⟨"com/example/fairgauge/fairgauge/io/CsvInput$Record", "field", "(I)Ljava/lang/String;"⟩ : MethodName)) (C := "com/example/fairgauge/fairgauge/io/CsvInput$Record") (z := (⟨"com/example/fairgauge/fairgauge/io/CsvInput$Record", "field", "(I)Ljava/lang/String;"⟩ : MethodName)) (argsL := [(.int (2 : Int32))]) (st := []) (W := 0) at_137 (hw _ (List.mem_of_getElem? (i := 110) rfl)) (hw _ (List.mem_of_getElem? (i := 111) rfl)) (fun s q => notFace_of_selects (args := #[]) (mvT q (hw _ (List.mem_of_getElem? (i := 113) rfl)))) (hw _ (List.mem_of_getElem? (i := 113) rfl)) (hw _ (List.mem_of_getElem? (i := 112) rfl)) n901 (hw _ (List.mem_of_getElem? (i := 96) rfl)) (hw _ (List.mem_of_getElem? (i := 114) rfl)) (by decide) pd_12 rfl (rm_fld hw b887 (2 : Int32) b822 b846 kb847 s817 [(.ref s799), (.ref s808), (.ref s817), .null, .null, .null, .null, .null, .null, .null] (3 : Int32) h897 n902 c903 c904 c905 c906 (by decide) (by decide) (by decide) rfl c907) (by decide) rfl (by decide) (by decide) (by decide) rfl rfl (fun v908 h909 J910 q911 => ?_)
      obtain ⟨rfl, rfl⟩ := q911
      show Wlk _ _ _ _ _ _ _ _ _ h897 12 39 140 #[.val (.int p1), .val (.int p2), .val (.int p3), .val (.int p4), .val (.int p5), .val (.int (3 : Int32)), .val (.int (2 : Int32)), .val (.ref s799), .val (.ref s808), .val (.ref s817), .val (.ref b822), .val (.ref b887), .val (.ref s817), .unset] [(.ref s817)]
      refine Wlk.astore (pc' := 142) (Ls' := #[.val (.int p1), .val (.int p2), .val (.int p3), .val (.int p4), .val (.int p5), .val (.int (3 : Int32)), .val (.int (2 : Int32)), .val (.ref s799), .val (.ref s808), .val (.ref s817), .val (.ref b822), .val (.ref b887), .val (.ref s817), .val (.ref s817)]) at_140 rfl rfl rfl rfl ?_
      refine Wlk.aload (pc' := 144) (v := (.ref s817)) at_142 rfl rfl rfl ?_
      refine Wlk.aload (pc' := 146) (v := (.ref s817)) at_144 rfl rfl rfl ?_
      refine Wlk.acmp (pc' := 149) (same := true) at_146 rfl rfl (decide_eq_true rfl) (by decide) (by decide) ?_
      refine Wlk.iconst (pc' := 150) (v := (1 : Int32)) at_149 rfl rfl ?_
      refine Wlk.goto (pc' := 154) at_150 (by decide) (by decide) ?_
      refine Wlk.ireturnN (t := .boolean) at_154 rfl (by simp) (by decide) (by decide) ?_
      exact rfl

set_option maxRecDepth 65536 in
set_option maxHeartbeats 40000000 in
theorem comes_1 {Post : Tables → Env → Array Value → State → Outcome → State → Prop} (hpost : ∀ tb e args s v u, (limb_1_1.after args s (.returned v) u = true ∧ limb_1_2.after args s (.returned v) u = true ∧ True) → FrameEnd s (.returned v) u (Jvm.fieldLocs frame_1_writes args s ++ Jvm.arrayLocs frame_1_arrays args s ++ Jvm.staticLocs frame_1_statics s) 32 192 → Post tb e args s (.returned v) u) :
    ArmFor flags0 classFile x code maxLocals ret World_1 tables_1 room_1 Calls_1 rest_1 Pre_1 Post := by
  intro l hfl _ _ p e ha hc hk s m args below hf hA hF happ hP
  obtain ⟨hcalls, hrest, hpre⟩ := hP
  obtain ⟨-, -, -, hnamed, -, -, -, hat⟩ := (Spec.applies_iff hf).mp happ
  obtain ⟨hg, hn⟩ := and_e (Cond.before_iff.mp (show (Jvm.Cond.and given_1 narrow_1).before args s = true from hpre))
  obtain ⟨gc, gr0⟩ := and_e hg
  obtain ⟨ga0, gr1⟩ := and_e gr0
  obtain ⟨ga1, gr2⟩ := and_e gr1
  obtain ⟨ga2, gr3⟩ := and_e gr2
  obtain ⟨ga3, gr4⟩ := and_e gr3
  obtain ⟨w0, w1, w2, w3, w4, rfl⟩ : ∃ w0 w1 w2 w3 w4 : Value, args = #[w0, w1, w2, w3, w4] := by
    have hs : args.size = 5 := by simpa [Cond.value, given_1] using gc
    obtain ⟨L⟩ := args
    match L, hs with
    | [w0, w1, w2, w3, w4], _ => exact ⟨w0, w1, w2, w3, w4, rfl⟩
  have hw := fun d (hd : d ∈ tables_1) => atoms_spec (ws := Jvm.Cond.code x code maxLocals ret :: tables_1) hat d (List.mem_cons_of_mem _ hd)
  have hfit : Fit s := fun {y c} hc i hi => by
    obtain ⟨ha, rfl⟩ := Array.getElem?_eq_some_iff.mp hc
    have q := List.all_eq_true.mp ((Array.all_eq_true_iff_forall_mem.mp hF) _ (Array.getElem_mem ha)) i (List.mem_range.mpr hi)
    simpa [Array.getElem?_eq_getElem hi] using q
  obtain ⟨hsets, hown0⟩ := atoms_of _ (rest_1_c_eq ▸ (show rest_1_c.before _ s = true from hrest))
  obtain ⟨i0, ei0⟩ := is_v ga0
  obtain rfl : w0 = (.int i0) := Option.some.inj ei0
  obtain ⟨i1, ei1⟩ := is_v ga1
  obtain rfl : w1 = (.int i1) := Option.some.inj ei1
  obtain ⟨i2, ei2⟩ := is_v ga2
  obtain rfl : w2 = (.int i2) := Option.some.inj ei2
  obtain ⟨i3, ei3⟩ := is_v ga3
  obtain rfl : w3 = (.int i3) := Option.some.inj ei3
  obtain ⟨i4, ei4⟩ := is_v gr4
  obtain rfl : w4 = (.int i4) := Option.some.inj ei4
  have hs1 := Cond.before_iff.mp (hsets _ (List.mem_of_getElem? (i := 1) rfl))
  obtain ⟨zc, ezc⟩ := is_v hs1
  have O2 : Sta s s.heap "java/lang/String" "COMPACT_STRINGS" "Z" (.int zc) := Sta.start ezc (Or.inl (hsets _ (List.mem_of_getElem? (i := 0) rfl)))
  have P3 : ¬ zc = 0 := fun q => by
    have hn0 := not_v (Cond.before_iff.mp (hsets _ (List.mem_of_getElem? (i := 2) rfl)))
    subst q
    have e1 := eq_i ezc (Term.int_eval (0)) rfl
    rw [e1] at hn0
    cases hn0
  obtain ⟨de, ede⟩ := exa_v (Cond.before_iff.mp (hsets _ (List.mem_of_getElem? (i := 16) rfl)))
  have SD : Sta s s.heap "java/util/ArrayList" "DEFAULTCAPACITY_EMPTY_ELEMENTDATA" "[Ljava/lang/Object;" (.ref de) := Sta.start ede (Or.inr ⟨hw _ (List.mem_of_getElem? (i := 37) rfl), (hsets _ (List.mem_of_getElem? (i := 11) rfl))⟩)
  obtain ⟨cde, Ade⟩ := Arr.start ede (Cond.before_iff.mp (hsets _ (List.mem_of_getElem? (i := 15) rfl)))
  have D0 : Arv s s.heap de cde.cls (.object "java/lang/Object") 0 [] .null := by
    have e1 := Cond.eq_int (hsets _ (List.mem_of_getElem? (i := 17) rfl)) rfl
    have h31 := SBG.length_lt ede (Ade.fin (Vm.Alike.refl _)) e1
    have e2 := (len_f (first := s) (o := none) (idx := []) ede (Ade.fin (Vm.Alike.refl _)) h31).symm.trans e1
    have e3 : cde.slots.size.toInt32 = 0 := by injection e2 with e2; injection e2
    have e4 : cde.slots.size = 0 := by
      have := congrArg Int32.toInt e3
      rw [len_toInt h31] at this
      exact Int.ofNat.inj this
    exact Arv.start hfit Ade h31 e3 (by decide) rfl trivial
  obtain ⟨n, o, h1, h2, h3, v, L, J', rfl, ⟨hQ, N, -, -⟩, hq, hq'⟩ := rm_law (l := l) (Z := s) hw tables_1 i0 i1 i2 i3 i4 s.heap zc O2 P3 de _ SD D0 p e ha hc hk s m _ below hf ((Spec.applies_iff_loose hf).mp happ).1 ⟨rfl, State.Warmed39.refl s, rfl, ⟨Nat.le_refl _, fun _ _ q => q⟩, nofun⟩ trivial
  obtain rfl := hQ
  refine ⟨n, _, h1, h2, h3, hpost _ _ _ _ _ _ ⟨Cond.after_iff.mpr rfl, Cond.after_iff.mpr (eq_i res_at (Term.int_eval (1)) rfl), trivial⟩ ⟨⟨_, rfl⟩, hq' rfl, (hq.2.2.2.sift fun y hy => Or.inr (N y hy)).mono (by decide) (by decide)⟩⟩
theorem main_1_1 : Claimed_1_1 := comes_1 fun _ _ _ _ _ _ h hF => ⟨h.1, hF⟩
theorem main_1_2 : Claimed_1_2 := comes_1 fun _ _ _ _ _ _ h hF => ⟨h.2.1, hF⟩

end Jvm.Pilot.@@N@@
namespace Jvm.Pilot.@@N@@
open Jvm Jvm.ClassFile Sem Op Lib Jvm.Free Jvm.Stand Jvm.Pilot.@@N@@.Jvm.D
/-! MADE BY PROGRAM (witnessworld.py) out of the Statement's table words and the real class files: 32 classes; the members and pool entries that the words name. The judged class is class 1, her method 2. -/
namespace start1
open Jvm.ClassFile
def u (s : String) : CpInfo := .utf8 (stringToUtf16 s)
/-- a pool by its gaps: so many unusable entries, then the entry; so many at the end -/
def gap : Nat → List CpInfo → List CpInfo
  | 0, r => r
  | n + 1, r => .unusable :: gap n r
def poolList (es : List (Nat × CpInfo)) (last : Nat) : List CpInfo := es.foldr (fun e r => gap e.1 (e.2 :: r)) (gap last [])
def pool (es : List (Nat × CpInfo)) (last : Nat) : Array CpInfo := ⟨poolList es last⟩
def fileOf (pool : Array CpInfo) (this : Nat) (attrs : Array Attribute := #[]) (ms : Array MethodInfo := #[]) (fl : Nat := 33) (sup : Nat := 0) (ifs : Array Nat := #[]) (fds : Array FieldInfo := #[]) : ClassFile where
  minorVersion := 0
  majorVersion := 65
  constantPool := pool
  accessFlags := fl
  thisClass := this
  superClass := sup
  interfaces := ifs
  fields := fds
  methods := ms
  attributes := attrs
def plain (name : String) (sup : Option ClassId) : Class where
  name := name
  kind := .ordinary
  loader := none
  accessFlags := 33
  super := sup
  interfaces := #[]
  cf := none
  fields := #[]
  methods := #[]
  instanceTypes := #[]
  staticTypes := #[]
  resolved := #[]
  callSites := []
  init := .initialized
  statics := none
  mirror := none

def pool0 : Array CpInfo := pool [(5, u "<init>"), (0, u "()V"), (1, .class_ 10), (1, u "java/lang/Object")] 113

def k0c0 : Code := { maxStack := 0, maxLocals := 1, code := object_method_1_code, exceptionTable := #[], attributes := #[] }
def k0m0 : Method := { name := "<init>", desc := "()V", sig := { parameters := [], returnType := none }, accessFlags := 1, code := some k0c0 }
/-- java/lang/Object -/
def k0 : Class := { plain "java/lang/Object" none with
  accessFlags := 33
  interfaces := #[]
  cf := some (fileOf pool0 8 #[] #[{ accessFlags := 1, nameIndex := 5, descriptorIndex := 6, attributes := #[] }] 33 0 #[] #[])
  fields := #[]
  methods := #[k0m0]
  instanceTypes := #[]
  staticTypes := #[]
  resolved := Array.replicate 124 none
  statics := none }

def pool1 : Array CpInfo := pool [(2, .class_ 4), (0, .nameAndType 5 6), (0, u "java/lang/Object"), (0, u "<init>"), (0, u "()V"), (0, .class_ 8), (0, u "java/lang/String"), (0, .methodref 7 10), (0, .nameAndType 5 11), (0, u "([C)V"), (0, .integer 2147483647), (0, .methodref 14 15), (0, .class_ 16), (0, .nameAndType 17 18), (0, u "com/example/fairgauge/fairgauge/io/RecordFieldPinLaw"), (0, u "drawn"), (0, u "(I)Ljava/lang/String;"), (0, .class_ 20), (0, u "java/util/ArrayList"), (0, .methodref 19 3), (0, .interfaceMethodref 23 24), (0, .class_ 25), (0, .nameAndType 26 27), (0, u "java/util/List"), (0, u "add"), (0, u "(Ljava/lang/Object;)Z"), (0, .class_ 29), (0, u "com/example/fairgauge/fairgauge/io/CsvInput$Record"), (0, .methodref 28 31), (0, .nameAndType 5 32), (0, u "(ILjava/util/List;)V"), (0, .methodref 28 34), (0, .nameAndType 35 18), (0, u "field"), (2, u "law"), (0, u "(IIIII)Z")] 7

def k1m0 : Method := { name := "<init>", desc := "()V", sig := { parameters := [], returnType := none }, accessFlags := 2, code := none }
def k1c1 : Code := { maxStack := 4, maxLocals := 2, code := method_2_code, exceptionTable := #[], attributes := #[] }
def k1m1 : Method := { name := "drawn", desc := "(I)Ljava/lang/String;", sig := { parameters := [.int], returnType := some (.object "java/lang/String") }, accessFlags := 10, code := some k1c1 }
def k1c2 : Code := { maxStack := 4, maxLocals := 14, code := code, exceptionTable := #[], attributes := #[] }
def k1m2 : Method := { name := "law", desc := "(IIIII)Z", sig := { parameters := [.int, .int, .int, .int, .int], returnType := some .boolean }, accessFlags := 9, code := some k1c2 }
/-- com/example/fairgauge/fairgauge/io/RecordFieldPinLaw -/
def k1 : Class := { plain "com/example/fairgauge/fairgauge/io/RecordFieldPinLaw" (some 0) with
  accessFlags := 49
  interfaces := #[]
  cf := some (fileOf pool1 14 #[] #[{ accessFlags := 2, nameIndex := 5, descriptorIndex := 6, attributes := #[] }, { accessFlags := 10, nameIndex := 17, descriptorIndex := 18, attributes := #[] }, { accessFlags := 9, nameIndex := 38, descriptorIndex := 39, attributes := #[] }] 49 2 #[] #[])
  fields := #[]
  methods := #[k1m0, k1m1, k1m2]
  instanceTypes := #[]
  staticTypes := #[]
  resolved := Array.replicate 47 none
  statics := none }

def pool2 : Array CpInfo := pool [(1, .class_ 2), (0, u "java/io/Serializable"), (0, .class_ 4), (0, u "java/lang/Object")] 2

/-- java/io/Serializable -/
def k2 : Class := { plain "java/io/Serializable" (some 0) with
  accessFlags := 1537
  interfaces := #[]
  cf := some (fileOf pool2 1 #[] #[] 1537 3 #[] #[])
  fields := #[]
  methods := #[]
  instanceTypes := #[]
  staticTypes := #[]
  resolved := Array.replicate 7 none
  statics := none }

def pool3 : Array CpInfo := pool [(1, .class_ 2), (0, u "java/lang/Comparable"), (0, .class_ 4), (0, u "java/lang/Object")] 7

/-- java/lang/Comparable -/
def k3 : Class := { plain "java/lang/Comparable" (some 0) with
  accessFlags := 1537
  interfaces := #[]
  cf := some (fileOf pool3 1 #[] #[] 1537 3 #[] #[])
  fields := #[]
  methods := #[]
  instanceTypes := #[]
  staticTypes := #[]
  resolved := Array.replicate 12 none
  statics := none }

def pool4 : Array CpInfo := pool [(2, .class_ 4), (1, u "java/lang/CharSequence"), (42, .class_ 48), (0, u "java/lang/CharSequence$1CodePointIterator"), (10, .class_ 60), (0, u "java/lang/CharSequence$1CharIterator"), (5, .class_ 67), (0, u "java/lang/Object")] 63

/-- java/lang/CharSequence -/
def k4 : Class := { plain "java/lang/CharSequence" (some 0) with
  accessFlags := 1537
  interfaces := #[]
  cf := some (fileOf pool4 2 #[.nestMembers #[47, 59]] #[] 1537 66 #[] #[])
  fields := #[]
  methods := #[]
  instanceTypes := #[]
  staticTypes := #[]
  resolved := Array.replicate 131 none
  statics := none }

def pool5 : Array CpInfo := pool [(1, .class_ 2), (0, u "java/lang/constant/Constable"), (0, .class_ 4), (0, u "java/lang/Object")] 6

/-- java/lang/constant/Constable -/
def k5 : Class := { plain "java/lang/constant/Constable" (some 0) with
  accessFlags := 1537
  interfaces := #[]
  cf := some (fileOf pool5 1 #[] #[] 1537 3 #[] #[])
  fields := #[]
  methods := #[]
  instanceTypes := #[]
  staticTypes := #[]
  resolved := Array.replicate 11 none
  statics := none }

def pool6 : Array CpInfo := pool [(1, .class_ 2), (0, u "java/lang/constant/ConstantDesc"), (0, .class_ 4), (0, u "java/lang/Object")] 32

/-- java/lang/constant/ConstantDesc -/
def k6 : Class := { plain "java/lang/constant/ConstantDesc" (some 0) with
  accessFlags := 1537
  interfaces := #[]
  cf := some (fileOf pool6 1 #[] #[] 1537 3 #[] #[])
  fields := #[]
  methods := #[]
  instanceTypes := #[]
  staticTypes := #[]
  resolved := Array.replicate 37 none
  statics := none }

def pool7 : Array CpInfo := pool [(1, .methodref 2 3), (0, .class_ 4), (0, .nameAndType 5 6), (0, u "java/lang/Object"), (0, u "<init>"), (0, u "()V"), (2, .fieldref 10 11), (0, .class_ 12), (0, .nameAndType 13 14), (0, u "java/lang/String"), (0, u "value"), (0, u "[B"), (0, .fieldref 10 16), (0, .nameAndType 17 18), (0, u "coder"), (0, u "B"), (2, u "hash"), (0, u "I"), (2, u "hashIsZero"), (0, u "Z"), (0, .methodref 10 28), (0, .nameAndType 5 29), (0, u "([CIILjava/lang/Void;)V"), (8, .fieldref 10 39), (0, .nameAndType 40 26), (0, u "COMPACT_STRINGS"), (1, .class_ 44), (1, u "java/lang/StringUTF16"), (0, u "compress"), (1, .methodref 42 48), (0, .nameAndType 49 50), (0, u "coderFromArrayLen"), (0, u "([BI)B"), (126, .methodref 42 178), (0, .nameAndType 45 179), (0, u "([CII)[B"), (395, .class_ 576), (0, u "java/lang/CharSequence"), (22, u "CASE_INSENSITIVE_ORDER"), (0, u "Ljava/util/Comparator;"), (409, u "([C)V"), (90, u "serialPersistentFields"), (0, u "[Ljava/io/ObjectStreamField;"), (0, .class_ 1104), (0, u "java/lang/String$CaseInsensitiveComparator"), (1, .class_ 1107), (0, u "java/io/Serializable"), (0, .class_ 1109), (0, u "java/lang/Comparable"), (0, .class_ 1111), (0, u "java/lang/constant/Constable"), (0, .class_ 1113), (0, u "java/lang/constant/ConstantDesc"), (2, u "serialVersionUID"), (0, u "J"), (3, u "REPL"), (0, u "C"), (2, u "LATIN1"), (1, u "UTF16")] 323

def k7m0 : Method := { name := "<init>", desc := "()V", sig := { parameters := [], returnType := none }, accessFlags := 1, code := none }
def k7c1 : Code := { maxStack := 5, maxLocals := 2, code := jdk_42_method_3_code, exceptionTable := #[], attributes := #[] }
def k7m1 : Method := { name := "<init>", desc := "([C)V", sig := { parameters := [(.array .char)], returnType := none }, accessFlags := 1, code := some k7c1 }
def k7c2 : Code := { maxStack := 4, maxLocals := 6, code := jdk_42_method_149_code, exceptionTable := #[], attributes := #[] }
def k7m2 : Method := { name := "<init>", desc := "([CIILjava/lang/Void;)V", sig := { parameters := [(.array .char), .int, .int, (.object "java/lang/Void")], returnType := none }, accessFlags := 2, code := some k7c2 }
/-- java/lang/String -/
def k7 : Class := { plain "java/lang/String" (some 0) with
  accessFlags := 49
  interfaces := #[2, 3, 4, 5, 6]
  cf := some (fileOf pool7 10 #[.nestMembers #[1103]] #[{ accessFlags := 1, nameIndex := 5, descriptorIndex := 6, attributes := #[] }, { accessFlags := 1, nameIndex := 5, descriptorIndex := 1010, attributes := #[] }, { accessFlags := 2, nameIndex := 5, descriptorIndex := 29, attributes := #[] }] 49 2 #[1106, 1108, 575, 1110, 1112] #[{ accessFlags := 18, nameIndex := 13, descriptorIndex := 14, attributes := #[] }, { accessFlags := 18, nameIndex := 17, descriptorIndex := 18, attributes := #[] }, { accessFlags := 2, nameIndex := 21, descriptorIndex := 22, attributes := #[] }, { accessFlags := 2, nameIndex := 25, descriptorIndex := 26, attributes := #[] }, { accessFlags := 26, nameIndex := 1116, descriptorIndex := 1117, attributes := #[] }, { accessFlags := 24, nameIndex := 40, descriptorIndex := 26, attributes := #[] }, { accessFlags := 26, nameIndex := 1101, descriptorIndex := 1102, attributes := #[] }, { accessFlags := 26, nameIndex := 1121, descriptorIndex := 1122, attributes := #[] }, { accessFlags := 25, nameIndex := 599, descriptorIndex := 600, attributes := #[] }, { accessFlags := 24, nameIndex := 1125, descriptorIndex := 18, attributes := #[] }, { accessFlags := 24, nameIndex := 1127, descriptorIndex := 18, attributes := #[] }])
  fields := #[{ name := "value", type := (.array .byte), accessFlags := 18, slot := 0, constantValue := 0 }, { name := "coder", type := .byte, accessFlags := 18, slot := 1, constantValue := 0 }, { name := "hash", type := .int, accessFlags := 2, slot := 2, constantValue := 0 }, { name := "hashIsZero", type := .boolean, accessFlags := 2, slot := 3, constantValue := 0 }, { name := "serialVersionUID", type := .long, accessFlags := 26, slot := 0, constantValue := 0 }, { name := "COMPACT_STRINGS", type := .boolean, accessFlags := 24, slot := 1, constantValue := 0 }, { name := "serialPersistentFields", type := (.array (.object "java/io/ObjectStreamField")), accessFlags := 26, slot := 2, constantValue := 0 }, { name := "REPL", type := .char, accessFlags := 26, slot := 3, constantValue := 0 }, { name := "CASE_INSENSITIVE_ORDER", type := (.object "java/util/Comparator"), accessFlags := 25, slot := 4, constantValue := 0 }, { name := "LATIN1", type := .byte, accessFlags := 24, slot := 5, constantValue := 0 }, { name := "UTF16", type := .byte, accessFlags := 24, slot := 6, constantValue := 0 }]
  methods := #[k7m0, k7m1, k7m2]
  instanceTypes := #[(.array .byte), .byte, .int, .boolean]
  staticTypes := #[.long, .boolean, (.array (.object "java/io/ObjectStreamField")), .char, (.object "java/util/Comparator"), .byte, .byte]
  resolved := Array.replicate 1451 none
  statics := some 0 }

def pool8 : Array CpInfo := pool [(6, .class_ 8), (1, u "java/lang/Object"), (0, u "<init>"), (0, u "()V"), (1, .class_ 14), (1, u "java/lang/StringUTF16"), (31, u "$assertionsDisabled"), (0, u "Z"), (13, u "HI_BYTE_SHIFT"), (0, u "I"), (2, u "LO_BYTE_SHIFT"), (49, .methodref 12 116), (0, .nameAndType 117 118), (0, u "compress"), (0, u "([CI[BII)I"), (3, u "([CII)[B"), (138, u "coderFromArrayLen"), (0, u "([BI)B"), (106, .class_ 371), (1, u "java/lang/StringUTF16$LinesSpliterator"), (58, u "MAX_LENGTH"), (196, .class_ 628), (0, u "java/lang/StringUTF16$CodePointsSpliterator"), (0, .class_ 630), (0, u "java/lang/StringUTF16$CharsSpliterator")] 4

def k8m0 : Method := { name := "<init>", desc := "()V", sig := { parameters := [], returnType := none }, accessFlags := 0, code := none }
def k8c1 : Code := { maxStack := 2, maxLocals := 2, code := jdk_52_method_15_code, exceptionTable := #[], attributes := #[] }
def k8m1 : Method := { name := "coderFromArrayLen", desc := "([BI)B", sig := { parameters := [(.array .byte), .int], returnType := some .byte }, accessFlags := 8, code := some k8c1 }
def k8c2 : Code := { maxStack := 5, maxLocals := 6, code := jdk_52_method_16_code, exceptionTable := #[], attributes := #[] }
def k8m2 : Method := { name := "compress", desc := "([CII)[B", sig := { parameters := [(.array .char), .int, .int], returnType := some (.array .byte) }, accessFlags := 9, code := some k8c2 }
def k8c3 : Code := { maxStack := 3, maxLocals := 7, code := jdk_52_method_21_code, exceptionTable := #[], attributes := #[] }
def k8m3 : Method := { name := "compress", desc := "([CI[BII)I", sig := { parameters := [(.array .char), .int, (.array .byte), .int, .int], returnType := some .int }, accessFlags := 9, code := some k8c3 }
/-- java/lang/StringUTF16 -/
def k8 : Class := { plain "java/lang/StringUTF16" (some 0) with
  accessFlags := 48
  interfaces := #[]
  cf := some (fileOf pool8 12 #[.nestMembers #[627, 629, 369]] #[{ accessFlags := 0, nameIndex := 9, descriptorIndex := 10, attributes := #[] }, { accessFlags := 8, nameIndex := 261, descriptorIndex := 262, attributes := #[] }, { accessFlags := 9, nameIndex := 117, descriptorIndex := 122, attributes := #[] }, { accessFlags := 9, nameIndex := 117, descriptorIndex := 118, attributes := #[] }] 48 6 #[] #[{ accessFlags := 26, nameIndex := 61, descriptorIndex := 62, attributes := #[] }, { accessFlags := 26, nameIndex := 65, descriptorIndex := 62, attributes := #[] }, { accessFlags := 24, nameIndex := 430, descriptorIndex := 62, attributes := #[] }, { accessFlags := 4120, nameIndex := 46, descriptorIndex := 47, attributes := #[] }])
  fields := #[{ name := "HI_BYTE_SHIFT", type := .int, accessFlags := 26, slot := 0, constantValue := 0 }, { name := "LO_BYTE_SHIFT", type := .int, accessFlags := 26, slot := 1, constantValue := 0 }, { name := "MAX_LENGTH", type := .int, accessFlags := 24, slot := 2, constantValue := 0 }, { name := "$assertionsDisabled", type := .boolean, accessFlags := 4120, slot := 3, constantValue := 0 }]
  methods := #[k8m0, k8m1, k8m2, k8m3]
  instanceTypes := #[]
  staticTypes := #[.int, .int, .int, .boolean]
  resolved := Array.replicate 635 none
  statics := none }

def pool9 : Array CpInfo := pool [(8, .class_ 10), (1, u "java/lang/Iterable"), (24, .class_ 36), (0, u "java/lang/Object")] 25

/-- java/lang/Iterable -/
def k9 : Class := { plain "java/lang/Iterable" (some 0) with
  accessFlags := 1537
  interfaces := #[]
  cf := some (fileOf pool9 8 #[] #[] 1537 35 #[] #[])
  fields := #[]
  methods := #[]
  instanceTypes := #[]
  staticTypes := #[]
  resolved := Array.replicate 62 none
  statics := none }

def pool10 : Array CpInfo := pool [(10, .class_ 12), (1, u "java/util/Collection"), (47, .class_ 61), (0, u "java/lang/Object"), (0, .class_ 63), (0, u "java/lang/Iterable")] 51

/-- java/util/Collection -/
def k10 : Class := { plain "java/util/Collection" (some 0) with
  accessFlags := 1537
  interfaces := #[9]
  cf := some (fileOf pool10 10 #[] #[] 1537 60 #[62] #[])
  fields := #[]
  methods := #[]
  instanceTypes := #[]
  staticTypes := #[]
  resolved := Array.replicate 115 none
  statics := none }

def pool11 : Array CpInfo := pool [(1, .methodref 2 3), (0, .class_ 4), (0, .nameAndType 5 6), (0, u "java/lang/Object"), (0, u "<init>"), (0, u "()V"), (1, .class_ 10), (1, u "java/util/AbstractCollection"), (66, .class_ 78), (0, u "java/util/Collection")] 81

def k11c0 : Code := { maxStack := 1, maxLocals := 1, code := jdk_22_method_1_code, exceptionTable := #[], attributes := #[] }
def k11m0 : Method := { name := "<init>", desc := "()V", sig := { parameters := [], returnType := none }, accessFlags := 4, code := some k11c0 }
/-- java/util/AbstractCollection -/
def k11 : Class := { plain "java/util/AbstractCollection" (some 0) with
  accessFlags := 1057
  interfaces := #[10]
  cf := some (fileOf pool11 8 #[] #[{ accessFlags := 4, nameIndex := 5, descriptorIndex := 6, attributes := #[] }] 1057 2 #[77] #[])
  fields := #[]
  methods := #[k11m0]
  instanceTypes := #[]
  staticTypes := #[]
  resolved := Array.replicate 160 none
  statics := none }

def pool12 : Array CpInfo := pool [(8, .class_ 10), (1, u "java/util/SequencedCollection"), (15, .class_ 27), (0, u "java/lang/Object"), (0, .class_ 29), (0, u "java/util/Collection")] 27

/-- java/util/SequencedCollection -/
def k12 : Class := { plain "java/util/SequencedCollection" (some 0) with
  accessFlags := 1537
  interfaces := #[10]
  cf := some (fileOf pool12 8 #[] #[] 1537 26 #[28] #[])
  fields := #[]
  methods := #[]
  instanceTypes := #[]
  staticTypes := #[]
  resolved := Array.replicate 57 none
  statics := none }

def pool13 : Array CpInfo := pool [(8, .class_ 10), (1, u "java/util/List"), (49, u "add"), (3, u "(Ljava/lang/Object;)Z"), (10, u "get"), (0, u "(I)Ljava/lang/Object;"), (26, .class_ 104), (0, u "java/lang/Object"), (15, .class_ 121), (0, u "java/util/SequencedCollection")] 129

def k13m0 : Method := { name := "add", desc := "(Ljava/lang/Object;)Z", sig := { parameters := [(.object "java/lang/Object")], returnType := some .boolean }, accessFlags := 1025, code := none }
def k13m1 : Method := { name := "get", desc := "(I)Ljava/lang/Object;", sig := { parameters := [.int], returnType := some (.object "java/lang/Object") }, accessFlags := 1025, code := none }
/-- java/util/List -/
def k13 : Class := { plain "java/util/List" (some 0) with
  accessFlags := 1537
  interfaces := #[12]
  cf := some (fileOf pool13 8 #[] #[{ accessFlags := 1025, nameIndex := 60, descriptorIndex := 64, attributes := #[] }, { accessFlags := 1025, nameIndex := 75, descriptorIndex := 76, attributes := #[] }] 1537 103 #[120] #[])
  fields := #[]
  methods := #[k13m0, k13m1]
  instanceTypes := #[]
  staticTypes := #[]
  resolved := Array.replicate 251 none
  statics := none }

def pool14 : Array CpInfo := pool [(1, .methodref 2 3), (0, .class_ 4), (0, .nameAndType 5 6), (0, u "java/util/AbstractCollection"), (0, u "<init>"), (0, u "()V"), (0, .fieldref 8 9), (0, .class_ 10), (0, .nameAndType 11 12), (0, u "java/util/AbstractList"), (0, u "modCount"), (0, u "I"), (64, .class_ 78), (0, u "java/util/AbstractList$Itr"), (3, .class_ 83), (0, u "java/util/AbstractList$ListItr"), (9, .class_ 94), (0, u "java/util/AbstractList$RandomAccessSubList"), (3, .class_ 99), (0, u "java/util/AbstractList$SubList"), (33, .class_ 134), (0, u "java/util/List"), (73, .class_ 209), (0, u "java/util/AbstractList$SubList$1"), (0, .class_ 211), (0, u "java/util/AbstractList$RandomAccessSpliterator")] 6

def k14c0 : Code := { maxStack := 2, maxLocals := 1, code := jdk_39_method_1_code, exceptionTable := #[], attributes := #[] }
def k14m0 : Method := { name := "<init>", desc := "()V", sig := { parameters := [], returnType := none }, accessFlags := 4, code := some k14c0 }
/-- java/util/AbstractList -/
def k14 : Class := { plain "java/util/AbstractList" (some 11) with
  accessFlags := 1057
  interfaces := #[13]
  cf := some (fileOf pool14 8 #[.nestMembers #[93, 98, 208, 210, 82, 77]] #[{ accessFlags := 4, nameIndex := 5, descriptorIndex := 6, attributes := #[] }] 1057 2 #[133] #[{ accessFlags := 132, nameIndex := 11, descriptorIndex := 12, attributes := #[] }])
  fields := #[{ name := "modCount", type := .int, accessFlags := 132, slot := 0, constantValue := 0 }]
  methods := #[k14m0]
  instanceTypes := #[.int]
  staticTypes := #[]
  resolved := Array.replicate 218 none
  statics := none }

def pool15 : Array CpInfo := pool [(1, .class_ 2), (0, u "java/util/RandomAccess"), (0, .class_ 4), (0, u "java/lang/Object")] 2

/-- java/util/RandomAccess -/
def k15 : Class := { plain "java/util/RandomAccess" (some 0) with
  accessFlags := 1537
  interfaces := #[]
  cf := some (fileOf pool15 1 #[] #[] 1537 3 #[] #[])
  fields := #[]
  methods := #[]
  instanceTypes := #[]
  staticTypes := #[]
  resolved := Array.replicate 7 none
  statics := none }

def pool16 : Array CpInfo := pool [(1, .class_ 2), (0, u "java/lang/Cloneable"), (0, .class_ 4), (0, u "java/lang/Object")] 2

/-- java/lang/Cloneable -/
def k16 : Class := { plain "java/lang/Cloneable" (some 0) with
  accessFlags := 1537
  interfaces := #[]
  cf := some (fileOf pool16 1 #[] #[] 1537 3 #[] #[])
  fields := #[]
  methods := #[]
  instanceTypes := #[]
  staticTypes := #[]
  resolved := Array.replicate 7 none
  statics := none }

def pool17 : Array CpInfo := pool [(1, .methodref 2 3), (0, .class_ 4), (0, .nameAndType 5 6), (0, u "java/util/AbstractList"), (0, u "<init>"), (0, u "()V"), (0, .class_ 8), (0, u "java/lang/Object"), (0, .fieldref 10 11), (0, .class_ 12), (0, .nameAndType 13 14), (0, u "java/util/ArrayList"), (0, u "elementData"), (0, u "[Ljava/lang/Object;"), (2, u "EMPTY_ELEMENTDATA"), (21, .fieldref 10 40), (0, .nameAndType 41 14), (0, u "DEFAULTCAPACITY_EMPTY_ELEMENTDATA"), (5, u "()[Ljava/lang/Object;"), (0, .fieldref 10 49), (0, .nameAndType 50 51), (0, u "size"), (0, u "I"), (11, .fieldref 10 64), (0, .nameAndType 65 51), (0, u "modCount"), (3, .methodref 10 70), (0, .nameAndType 71 72), (0, u "grow"), (0, u "(I)[Ljava/lang/Object;"), (6, .methodref 80 81), (0, .class_ 82), (0, .nameAndType 83 84), (0, u "java/lang/Math"), (0, u "max"), (0, u "(II)I"), (11, u "(Ljava/lang/Object;)Z"), (21, .methodref 119 120), (0, .class_ 121), (0, .nameAndType 122 84), (0, u "java/util/Objects"), (0, u "checkIndex"), (0, .methodref 10 124), (0, .nameAndType 13 125), (0, u "(I)Ljava/lang/Object;"), (3, .methodref 10 130), (0, .nameAndType 71 47), (0, .methodref 10 132), (0, .nameAndType 133 134), (0, u "add"), (0, u "(Ljava/lang/Object;[Ljava/lang/Object;I)V"), (13, .class_ 149), (0, u "java/util/List"), (112, .class_ 263), (0, u "java/util/ArrayList$ListItr"), (3, .class_ 268), (0, u "java/util/ArrayList$Itr"), (7, .class_ 277), (0, u "java/util/ArrayList$SubList"), (12, .class_ 291), (0, u "java/util/ArrayList$ArrayListSpliterator"), (37, .class_ 330), (0, u "java/util/RandomAccess"), (0, .class_ 332), (0, u "java/lang/Cloneable"), (0, .class_ 334), (0, u "java/io/Serializable"), (0, u "serialVersionUID"), (0, u "J"), (3, u "DEFAULT_CAPACITY"), (40, u "get"), (118, .class_ 501), (0, u "java/util/ArrayList$SubList$2"), (0, .class_ 503), (0, u "java/util/ArrayList$SubList$1")] 5

def k17c0 : Code := { maxStack := 2, maxLocals := 1, code := jdk_38_method_2_code, exceptionTable := #[], attributes := #[] }
def k17m0 : Method := { name := "<init>", desc := "()V", sig := { parameters := [], returnType := none }, accessFlags := 1, code := some k17c0 }
def k17c1 : Code := { maxStack := 4, maxLocals := 4, code := jdk_38_method_6_code, exceptionTable := #[], attributes := #[] }
def k17m1 : Method := { name := "grow", desc := "(I)[Ljava/lang/Object;", sig := { parameters := [.int], returnType := some (.array (.object "java/lang/Object")) }, accessFlags := 2, code := some k17c1 }
def k17c2 : Code := { maxStack := 3, maxLocals := 1, code := jdk_38_method_7_code, exceptionTable := #[], attributes := #[] }
def k17m2 : Method := { name := "grow", desc := "()[Ljava/lang/Object;", sig := { parameters := [], returnType := some (.array (.object "java/lang/Object")) }, accessFlags := 2, code := some k17c2 }
def k17c3 : Code := { maxStack := 2, maxLocals := 2, code := jdk_38_method_18_code, exceptionTable := #[], attributes := #[] }
def k17m3 : Method := { name := "elementData", desc := "(I)Ljava/lang/Object;", sig := { parameters := [.int], returnType := some (.object "java/lang/Object") }, accessFlags := 0, code := some k17c3 }
def k17c4 : Code := { maxStack := 2, maxLocals := 2, code := jdk_38_method_20_code, exceptionTable := #[], attributes := #[] }
def k17m4 : Method := { name := "get", desc := "(I)Ljava/lang/Object;", sig := { parameters := [.int], returnType := some (.object "java/lang/Object") }, accessFlags := 1, code := some k17c4 }
def k17c5 : Code := { maxStack := 3, maxLocals := 4, code := jdk_38_method_24_code, exceptionTable := #[], attributes := #[] }
def k17m5 : Method := { name := "add", desc := "(Ljava/lang/Object;[Ljava/lang/Object;I)V", sig := { parameters := [(.object "java/lang/Object"), (.array (.object "java/lang/Object")), .int], returnType := none }, accessFlags := 2, code := some k17c5 }
def k17c6 : Code := { maxStack := 4, maxLocals := 2, code := jdk_38_method_25_code, exceptionTable := #[], attributes := #[] }
def k17m6 : Method := { name := "add", desc := "(Ljava/lang/Object;)Z", sig := { parameters := [(.object "java/lang/Object")], returnType := some .boolean }, accessFlags := 1, code := some k17c6 }
/-- java/util/ArrayList -/
def k17 : Class := { plain "java/util/ArrayList" (some 14) with
  accessFlags := 33
  interfaces := #[13, 15, 16, 2]
  cf := some (fileOf pool17 10 #[.nestMembers #[290, 276, 500, 502, 262, 267]] #[{ accessFlags := 1, nameIndex := 5, descriptorIndex := 6, attributes := #[] }, { accessFlags := 2, nameIndex := 71, descriptorIndex := 72, attributes := #[] }, { accessFlags := 2, nameIndex := 71, descriptorIndex := 47, attributes := #[] }, { accessFlags := 0, nameIndex := 13, descriptorIndex := 125, attributes := #[] }, { accessFlags := 1, nameIndex := 381, descriptorIndex := 125, attributes := #[] }, { accessFlags := 2, nameIndex := 133, descriptorIndex := 134, attributes := #[] }, { accessFlags := 1, nameIndex := 133, descriptorIndex := 96, attributes := #[] }] 33 2 #[148, 329, 331, 333] #[{ accessFlags := 26, nameIndex := 335, descriptorIndex := 336, attributes := #[] }, { accessFlags := 26, nameIndex := 340, descriptorIndex := 51, attributes := #[] }, { accessFlags := 26, nameIndex := 17, descriptorIndex := 14, attributes := #[] }, { accessFlags := 26, nameIndex := 41, descriptorIndex := 14, attributes := #[] }, { accessFlags := 128, nameIndex := 13, descriptorIndex := 14, attributes := #[] }, { accessFlags := 2, nameIndex := 50, descriptorIndex := 51, attributes := #[] }])
  fields := #[{ name := "serialVersionUID", type := .long, accessFlags := 26, slot := 0, constantValue := 0 }, { name := "DEFAULT_CAPACITY", type := .int, accessFlags := 26, slot := 1, constantValue := 0 }, { name := "EMPTY_ELEMENTDATA", type := (.array (.object "java/lang/Object")), accessFlags := 26, slot := 2, constantValue := 0 }, { name := "DEFAULTCAPACITY_EMPTY_ELEMENTDATA", type := (.array (.object "java/lang/Object")), accessFlags := 26, slot := 3, constantValue := 0 }, { name := "elementData", type := (.array (.object "java/lang/Object")), accessFlags := 128, slot := 1, constantValue := 0 }, { name := "size", type := .int, accessFlags := 2, slot := 2, constantValue := 0 }]
  methods := #[k17m0, k17m1, k17m2, k17m3, k17m4, k17m5, k17m6]
  instanceTypes := #[.int, (.array (.object "java/lang/Object")), .int]
  staticTypes := #[.long, .int, (.array (.object "java/lang/Object")), (.array (.object "java/lang/Object"))]
  resolved := Array.replicate 509 none
  statics := some 1 }

def pool18 : Array CpInfo := pool [(1, .class_ 2), (0, u "java/lang/Math"), (1, .class_ 6), (1, u "java/lang/Object"), (0, u "<init>"), (0, u "()V"), (89, .class_ 100), (1, u "java/lang/Math$RandomNumberGeneratorHolder"), (71, u "negativeZeroFloatBits"), (0, u "J"), (2, u "negativeZeroDoubleBits"), (21, u "max"), (46, u "$assertionsDisabled"), (0, u "Z"), (88, u "(II)I"), (2, u "twoToTheDoubleScaleDown"), (0, u "D"), (4, u "twoToTheDoubleScaleUp"), (9, u "E"), (3, u "PI"), (2, u "TAU"), (2, u "DEGREES_TO_RADIANS"), (0, u "RADIANS_TO_DEGREES")] 94

def k18m0 : Method := { name := "<init>", desc := "()V", sig := { parameters := [], returnType := none }, accessFlags := 2, code := none }
def k18c1 : Code := { maxStack := 2, maxLocals := 2, code := jdk_29_method_65_code, exceptionTable := #[], attributes := #[] }
def k18m1 : Method := { name := "max", desc := "(II)I", sig := { parameters := [.int, .int], returnType := some .int }, accessFlags := 9, code := some k18c1 }
/-- java/lang/Math -/
def k18 : Class := { plain "java/lang/Math" (some 0) with
  accessFlags := 49
  interfaces := #[]
  cf := some (fileOf pool18 1 #[.nestMembers #[98]] #[{ accessFlags := 2, nameIndex := 7, descriptorIndex := 8, attributes := #[] }, { accessFlags := 9, nameIndex := 198, descriptorIndex := 335, attributes := #[] }] 49 4 #[] #[{ accessFlags := 25, nameIndex := 354, descriptorIndex := 339, attributes := #[] }, { accessFlags := 25, nameIndex := 358, descriptorIndex := 339, attributes := #[] }, { accessFlags := 25, nameIndex := 361, descriptorIndex := 339, attributes := #[] }, { accessFlags := 26, nameIndex := 364, descriptorIndex := 339, attributes := #[] }, { accessFlags := 26, nameIndex := 365, descriptorIndex := 339, attributes := #[] }, { accessFlags := 26, nameIndex := 172, descriptorIndex := 173, attributes := #[] }, { accessFlags := 26, nameIndex := 176, descriptorIndex := 173, attributes := #[] }, { accessFlags := 8, nameIndex := 344, descriptorIndex := 339, attributes := #[] }, { accessFlags := 8, nameIndex := 338, descriptorIndex := 339, attributes := #[] }, { accessFlags := 4120, nameIndex := 245, descriptorIndex := 246, attributes := #[] }])
  fields := #[{ name := "E", type := .double, accessFlags := 25, slot := 0, constantValue := 0 }, { name := "PI", type := .double, accessFlags := 25, slot := 1, constantValue := 0 }, { name := "TAU", type := .double, accessFlags := 25, slot := 2, constantValue := 0 }, { name := "DEGREES_TO_RADIANS", type := .double, accessFlags := 26, slot := 3, constantValue := 0 }, { name := "RADIANS_TO_DEGREES", type := .double, accessFlags := 26, slot := 4, constantValue := 0 }, { name := "negativeZeroFloatBits", type := .long, accessFlags := 26, slot := 5, constantValue := 0 }, { name := "negativeZeroDoubleBits", type := .long, accessFlags := 26, slot := 6, constantValue := 0 }, { name := "twoToTheDoubleScaleUp", type := .double, accessFlags := 8, slot := 7, constantValue := 0 }, { name := "twoToTheDoubleScaleDown", type := .double, accessFlags := 8, slot := 8, constantValue := 0 }, { name := "$assertionsDisabled", type := .boolean, accessFlags := 4120, slot := 9, constantValue := 0 }]
  methods := #[k18m0, k18m1]
  instanceTypes := #[]
  staticTypes := #[.double, .double, .double, .double, .double, .long, .long, .double, .double, .boolean]
  resolved := Array.replicate 460 none
  statics := none }

def pool19 : Array CpInfo := pool [(1, .methodref 2 3), (0, .class_ 4), (0, .nameAndType 5 6), (0, u "java/lang/Object"), (0, u "<init>"), (0, u "()V"), (0, .class_ 8), (0, u "java/lang/Record")] 13

def k19c0 : Code := { maxStack := 1, maxLocals := 1, code := jdk_30_method_1_code, exceptionTable := #[], attributes := #[] }
def k19m0 : Method := { name := "<init>", desc := "()V", sig := { parameters := [], returnType := none }, accessFlags := 4, code := some k19c0 }
/-- java/lang/Record -/
def k19 : Class := { plain "java/lang/Record" (some 0) with
  accessFlags := 1057
  interfaces := #[]
  cf := some (fileOf pool19 7 #[] #[{ accessFlags := 4, nameIndex := 5, descriptorIndex := 6, attributes := #[] }] 1057 2 #[] #[])
  fields := #[]
  methods := #[k19m0]
  instanceTypes := #[]
  staticTypes := #[]
  resolved := Array.replicate 22 none
  statics := none }

def pool20 : Array CpInfo := pool [(1, .methodref 2 3), (0, .class_ 4), (0, .nameAndType 5 6), (0, u "java/lang/Record"), (0, u "<init>"), (0, u "()V"), (0, .fieldref 8 9), (0, .class_ 10), (0, .nameAndType 11 12), (0, u "com/example/fairgauge/fairgauge/io/CsvInput$Record"), (0, u "line"), (0, u "I"), (0, .fieldref 8 14), (0, .nameAndType 15 16), (0, u "fields"), (0, u "Ljava/util/List;"), (0, .interfaceMethodref 18 19), (0, .class_ 20), (0, .nameAndType 21 22), (0, u "java/util/List"), (0, u "get"), (0, u "(I)Ljava/lang/Object;"), (0, .class_ 24), (0, u "java/lang/String"), (12, u "field"), (0, u "(I)Ljava/lang/String;"), (16, u "(ILjava/util/List;)V"), (13, .class_ 70), (0, u "com/example/fairgauge/fairgauge/io/CsvInput")] 19

def k20c0 : Code := { maxStack := 2, maxLocals := 3, code := prog_80_method_1_code, exceptionTable := #[], attributes := #[] }
def k20m0 : Method := { name := "<init>", desc := "(ILjava/util/List;)V", sig := { parameters := [.int, (.object "java/util/List")], returnType := none }, accessFlags := 1, code := some k20c0 }
def k20c1 : Code := { maxStack := 2, maxLocals := 2, code := prog_80_method_2_code, exceptionTable := #[], attributes := #[] }
def k20m1 : Method := { name := "field", desc := "(I)Ljava/lang/String;", sig := { parameters := [.int], returnType := some (.object "java/lang/String") }, accessFlags := 1, code := some k20c1 }
/-- com/example/fairgauge/fairgauge/io/CsvInput$Record -/
def k20 : Class := { plain "com/example/fairgauge/fairgauge/io/CsvInput$Record" (some 19) with
  accessFlags := 49
  interfaces := #[]
  cf := some (fileOf pool20 8 #[.nestHost 69] #[{ accessFlags := 1, nameIndex := 5, descriptorIndex := 55, attributes := #[] }, { accessFlags := 1, nameIndex := 37, descriptorIndex := 38, attributes := #[] }] 49 2 #[] #[{ accessFlags := 18, nameIndex := 11, descriptorIndex := 12, attributes := #[] }, { accessFlags := 18, nameIndex := 15, descriptorIndex := 16, attributes := #[] }])
  fields := #[{ name := "line", type := .int, accessFlags := 18, slot := 0, constantValue := 0 }, { name := "fields", type := (.object "java/util/List"), accessFlags := 18, slot := 1, constantValue := 0 }]
  methods := #[k20m0, k20m1]
  instanceTypes := #[.int, (.object "java/util/List")]
  staticTypes := #[]
  resolved := Array.replicate 90 none
  statics := none }

def pool21 : Array CpInfo := pool [(2, .class_ 4), (1, u "java/lang/Object"), (0, u "<init>"), (0, u "()V"), (35, .class_ 44), (1, u "java/util/Objects"), (60, .methodref 106 107), (0, .class_ 108), (0, .nameAndType 109 110), (0, u "jdk/internal/util/Preconditions"), (0, u "checkIndex"), (0, u "(IILjava/util/function/BiFunction;)I"), (60, u "(II)I")] 12

def k21m0 : Method := { name := "<init>", desc := "()V", sig := { parameters := [], returnType := none }, accessFlags := 2, code := none }
def k21c1 : Code := { maxStack := 3, maxLocals := 2, code := jdk_31_method_17_code, exceptionTable := #[], attributes := #[] }
def k21m1 : Method := { name := "checkIndex", desc := "(II)I", sig := { parameters := [.int, .int], returnType := some .int }, accessFlags := 9, code := some k21c1 }
/-- java/util/Objects -/
def k21 : Class := { plain "java/util/Objects" (some 0) with
  accessFlags := 49
  interfaces := #[]
  cf := some (fileOf pool21 42 #[] #[{ accessFlags := 2, nameIndex := 5, descriptorIndex := 6, attributes := #[] }, { accessFlags := 9, nameIndex := 109, descriptorIndex := 171, attributes := #[] }] 49 2 #[] #[])
  fields := #[]
  methods := #[k21m0, k21m1]
  instanceTypes := #[]
  staticTypes := #[]
  resolved := Array.replicate 184 none
  statics := none }

def pool22 : Array CpInfo := pool [(2, .class_ 4), (1, u "java/lang/Object"), (0, u "<init>"), (0, u "()V"), (17, .class_ 26), (1, u "jdk/internal/util/Preconditions"), (6, u "checkIndex"), (21, .class_ 56), (0, u "jdk/internal/util/Preconditions$4"), (57, .class_ 115), (0, u "jdk/internal/util/Preconditions$1"), (7, u "SIOOBE_FORMATTER"), (0, u "Ljava/util/function/BiFunction;"), (0, .class_ 126), (0, u "jdk/internal/util/Preconditions$2"), (3, u "AIOOBE_FORMATTER"), (0, .class_ 132), (0, u "jdk/internal/util/Preconditions$3"), (3, u "IOOBE_FORMATTER"), (41, u "(IILjava/util/function/BiFunction;)I")] 15

def k22m0 : Method := { name := "<init>", desc := "()V", sig := { parameters := [], returnType := none }, accessFlags := 1, code := none }
def k22c1 : Code := { maxStack := 3, maxLocals := 3, code := jdk_41_method_11_code, exceptionTable := #[], attributes := #[] }
def k22m1 : Method := { name := "checkIndex", desc := "(IILjava/util/function/BiFunction;)I", sig := { parameters := [.int, .int, (.object "java/util/function/BiFunction")], returnType := some .int }, accessFlags := 9, code := some k22c1 }
/-- jdk/internal/util/Preconditions -/
def k22 : Class := { plain "jdk/internal/util/Preconditions" (some 0) with
  accessFlags := 33
  interfaces := #[]
  cf := some (fileOf pool22 24 #[.nestMembers #[55, 131, 125, 114]] #[{ accessFlags := 1, nameIndex := 5, descriptorIndex := 6, attributes := #[] }, { accessFlags := 9, nameIndex := 33, descriptorIndex := 178, attributes := #[] }] 33 2 #[] #[{ accessFlags := 25, nameIndex := 123, descriptorIndex := 124, attributes := #[] }, { accessFlags := 25, nameIndex := 130, descriptorIndex := 124, attributes := #[] }, { accessFlags := 25, nameIndex := 136, descriptorIndex := 124, attributes := #[] }])
  fields := #[{ name := "SIOOBE_FORMATTER", type := (.object "java/util/function/BiFunction"), accessFlags := 25, slot := 0, constantValue := 0 }, { name := "AIOOBE_FORMATTER", type := (.object "java/util/function/BiFunction"), accessFlags := 25, slot := 1, constantValue := 0 }, { name := "IOOBE_FORMATTER", type := (.object "java/util/function/BiFunction"), accessFlags := 25, slot := 2, constantValue := 0 }]
  methods := #[k22m0, k22m1]
  instanceTypes := #[]
  staticTypes := #[(.object "java/util/function/BiFunction"), (.object "java/util/function/BiFunction"), (.object "java/util/function/BiFunction")]
  resolved := Array.replicate 194 none
  statics := some 2 }

def pool23 : Array CpInfo := pool [(4, .class_ 6), (1, u "java/lang/Object"), (0, u "<init>"), (0, u "()V"), (5, .class_ 16), (1, u "java/lang/StringLatin1"), (104, u "$assertionsDisabled"), (0, u "Z"), (98, .class_ 223), (1, u "java/lang/StringLatin1$LinesSpliterator"), (166, .class_ 391), (0, u "java/lang/StringLatin1$CharsSpliterator")] 3

def k23m0 : Method := { name := "<init>", desc := "()V", sig := { parameters := [], returnType := none }, accessFlags := 0, code := none }
/-- java/lang/StringLatin1 -/
def k23 : Class := { plain "java/lang/StringLatin1" (some 0) with
  accessFlags := 48
  interfaces := #[]
  cf := some (fileOf pool23 14 #[.nestMembers #[390, 221]] #[{ accessFlags := 0, nameIndex := 7, descriptorIndex := 8, attributes := #[] }] 48 4 #[] #[{ accessFlags := 4120, nameIndex := 121, descriptorIndex := 122, attributes := #[] }])
  fields := #[{ name := "$assertionsDisabled", type := .boolean, accessFlags := 4120, slot := 0, constantValue := 0 }]
  methods := #[k23m0]
  instanceTypes := #[]
  staticTypes := #[.boolean]
  resolved := Array.replicate 395 none
  statics := none }

def pool24 : Array CpInfo := pool [(9, u "<init>"), (6, .class_ 18), (1, u "java/lang/Object"), (0, u "()V"), (1, .class_ 23), (1, u "jdk/internal/util/ArraysSupport"), (0, u "LOG2_ARRAY_LONG_INDEX_SCALE"), (0, u "I"), (2, u "U"), (0, u "Ljdk/internal/misc/Unsafe;"), (8, u "BIG_ENDIAN"), (0, u "Z"), (8, u "LOG2_BYTE_BIT_SIZE"), (4, u "LOG2_ARRAY_INT_INDEX_SCALE"), (54, u "JLA"), (0, u "Ljdk/internal/access/JavaLangAccess;"), (11, u "LOG2_ARRAY_BOOLEAN_INDEX_SCALE"), (9, u "LOG2_ARRAY_BYTE_INDEX_SCALE"), (5, u "LOG2_ARRAY_CHAR_INDEX_SCALE"), (5, u "LOG2_ARRAY_SHORT_INDEX_SCALE"), (18, u "LOG2_ARRAY_FLOAT_INDEX_SCALE"), (24, u "LOG2_ARRAY_DOUBLE_INDEX_SCALE"), (89, u "T_BOOLEAN"), (2, u "T_CHAR"), (1, u "T_FLOAT"), (1, u "T_DOUBLE"), (1, u "T_BYTE"), (1, u "T_SHORT"), (1, u "T_INT"), (1, u "T_LONG"), (1, u "SOFT_MAX_ARRAY_LENGTH")] 83

def k24m0 : Method := { name := "<init>", desc := "()V", sig := { parameters := [], returnType := none }, accessFlags := 2, code := none }
/-- jdk/internal/util/ArraysSupport -/
def k24 : Class := { plain "jdk/internal/util/ArraysSupport" (some 0) with
  accessFlags := 33
  interfaces := #[]
  cf := some (fileOf pool24 21 #[] #[{ accessFlags := 2, nameIndex := 9, descriptorIndex := 19, attributes := #[] }] 33 16 #[] #[{ accessFlags := 24, nameIndex := 28, descriptorIndex := 29, attributes := #[] }, { accessFlags := 26, nameIndex := 38, descriptorIndex := 39, attributes := #[] }, { accessFlags := 25, nameIndex := 121, descriptorIndex := 25, attributes := #[] }, { accessFlags := 25, nameIndex := 131, descriptorIndex := 25, attributes := #[] }, { accessFlags := 25, nameIndex := 137, descriptorIndex := 25, attributes := #[] }, { accessFlags := 25, nameIndex := 143, descriptorIndex := 25, attributes := #[] }, { accessFlags := 25, nameIndex := 53, descriptorIndex := 25, attributes := #[] }, { accessFlags := 25, nameIndex := 24, descriptorIndex := 25, attributes := #[] }, { accessFlags := 25, nameIndex := 162, descriptorIndex := 25, attributes := #[] }, { accessFlags := 25, nameIndex := 187, descriptorIndex := 25, attributes := #[] }, { accessFlags := 26, nameIndex := 48, descriptorIndex := 25, attributes := #[] }, { accessFlags := 25, nameIndex := 277, descriptorIndex := 25, attributes := #[] }, { accessFlags := 25, nameIndex := 280, descriptorIndex := 25, attributes := #[] }, { accessFlags := 25, nameIndex := 282, descriptorIndex := 25, attributes := #[] }, { accessFlags := 25, nameIndex := 284, descriptorIndex := 25, attributes := #[] }, { accessFlags := 25, nameIndex := 286, descriptorIndex := 25, attributes := #[] }, { accessFlags := 25, nameIndex := 288, descriptorIndex := 25, attributes := #[] }, { accessFlags := 25, nameIndex := 290, descriptorIndex := 25, attributes := #[] }, { accessFlags := 25, nameIndex := 292, descriptorIndex := 25, attributes := #[] }, { accessFlags := 26, nameIndex := 108, descriptorIndex := 109, attributes := #[] }, { accessFlags := 25, nameIndex := 294, descriptorIndex := 25, attributes := #[] }])
  fields := #[{ name := "U", type := (.object "jdk/internal/misc/Unsafe"), accessFlags := 24, slot := 0, constantValue := 0 }, { name := "BIG_ENDIAN", type := .boolean, accessFlags := 26, slot := 1, constantValue := 0 }, { name := "LOG2_ARRAY_BOOLEAN_INDEX_SCALE", type := .int, accessFlags := 25, slot := 2, constantValue := 0 }, { name := "LOG2_ARRAY_BYTE_INDEX_SCALE", type := .int, accessFlags := 25, slot := 3, constantValue := 0 }, { name := "LOG2_ARRAY_CHAR_INDEX_SCALE", type := .int, accessFlags := 25, slot := 4, constantValue := 0 }, { name := "LOG2_ARRAY_SHORT_INDEX_SCALE", type := .int, accessFlags := 25, slot := 5, constantValue := 0 }, { name := "LOG2_ARRAY_INT_INDEX_SCALE", type := .int, accessFlags := 25, slot := 6, constantValue := 0 }, { name := "LOG2_ARRAY_LONG_INDEX_SCALE", type := .int, accessFlags := 25, slot := 7, constantValue := 0 }, { name := "LOG2_ARRAY_FLOAT_INDEX_SCALE", type := .int, accessFlags := 25, slot := 8, constantValue := 0 }, { name := "LOG2_ARRAY_DOUBLE_INDEX_SCALE", type := .int, accessFlags := 25, slot := 9, constantValue := 0 }, { name := "LOG2_BYTE_BIT_SIZE", type := .int, accessFlags := 26, slot := 10, constantValue := 0 }, { name := "T_BOOLEAN", type := .int, accessFlags := 25, slot := 11, constantValue := 0 }, { name := "T_CHAR", type := .int, accessFlags := 25, slot := 12, constantValue := 0 }, { name := "T_FLOAT", type := .int, accessFlags := 25, slot := 13, constantValue := 0 }, { name := "T_DOUBLE", type := .int, accessFlags := 25, slot := 14, constantValue := 0 }, { name := "T_BYTE", type := .int, accessFlags := 25, slot := 15, constantValue := 0 }, { name := "T_SHORT", type := .int, accessFlags := 25, slot := 16, constantValue := 0 }, { name := "T_INT", type := .int, accessFlags := 25, slot := 17, constantValue := 0 }, { name := "T_LONG", type := .int, accessFlags := 25, slot := 18, constantValue := 0 }, { name := "JLA", type := (.object "jdk/internal/access/JavaLangAccess"), accessFlags := 26, slot := 19, constantValue := 0 }, { name := "SOFT_MAX_ARRAY_LENGTH", type := .int, accessFlags := 25, slot := 20, constantValue := 0 }]
  methods := #[k24m0]
  instanceTypes := #[]
  staticTypes := #[(.object "jdk/internal/misc/Unsafe"), .boolean, .int, .int, .int, .int, .int, .int, .int, .int, .int, .int, .int, .int, .int, .int, .int, .int, .int, (.object "jdk/internal/access/JavaLangAccess"), .int]
  resolved := Array.replicate 378 none
  statics := none }

/-- the primitive byte -/
def k25 : Class := { plain "byte" none with kind := .primitive 'B', accessFlags := 0x411 }
/-- [B -/
def k26 : Class := { plain "[B" (some 0) with kind := .array 25 .byte, interfaces := #[16, 2], accessFlags := 1041 }

/-- the primitive char -/
def k27 : Class := { plain "char" none with kind := .primitive 'C', accessFlags := 0x411 }
/-- [C -/
def k28 : Class := { plain "[C" (some 0) with kind := .array 27 .char, interfaces := #[16, 2], accessFlags := 1041 }

/-- the primitive int -/
def k29 : Class := { plain "int" none with kind := .primitive 'I', accessFlags := 0x411 }
/-- [I -/
def k30 : Class := { plain "[I" (some 0) with kind := .array 29 .int, interfaces := #[16, 2], accessFlags := 1041 }

/-- [Ljava/lang/Object; -/
def k31 : Class := { plain "[Ljava/lang/Object;" (some 0) with kind := .array 0 (.object "java/lang/Object"), interfaces := #[16, 2], accessFlags := 1041 }

def heap : Heap := #[{ cls := 7, slots := #[.long 0, .int 1, .null, .int 0, .null, .int 0, .int 0], vm := .statics 7 },
  { cls := 17, slots := #[.long 0, .int 0, .ref 3, .ref 4], vm := .statics 17 },
  { cls := 22, slots := #[.null, .null, .null], vm := .statics 22 },
  { cls := 31, slots := #[], vm := .none },
  { cls := 31, slots := #[], vm := .none }]
def classes : Array Class := #[k0, k1, k2, k3, k4, k5, k6, k7, k8, k9, k10, k11, k12, k13, k14, k15, k16, k17, k18, k19, k20, k21, k22, k23, k24, k25, k26, k27, k28, k29, k30, k31]
def interned : List (Array UInt16 × Addr) := []
def slotsUsed : Nat := 14
def theMethod : MethodId := ⟨1, 2⟩
def args0 : Array Value := #[.int 1, .int 2, .int 3, .int 4, .int 5]
def aboutOver (below : List Frame) : State where
  vm := { classes := classes, interned := interned.toArray }
  heap := heap
  slotsUsed := slotsUsed
  threads := #[{ frames := .invoking theMethod args0 :: below }]
def below0 : List Frame := [.native { method := ⟨0, 0⟩, args := #[] }]
def about1 : State := aboutOver below0
def p0 : Program := .bare "" "" ""
def e0 : Env := launch0.env 0 0 0
theorem w_frames : about1.frames = Frame.invoking theMethod args0 :: below0 := rfl
set_option maxRecDepth 65536 in
theorem w_args : argsFit about1.vm theMethod args0 = true := by decide +kernel
set_option maxRecDepth 65536 in
theorem w_heap : heapFits about1 = true := by decide +kernel
set_option maxRecDepth 65536 in
theorem w_runnable : about1.curStatus? = some .runnable := by decide +kernel
set_option maxRecDepth 65536 in
theorem w_alone : about1.alone = true := by decide +kernel
set_option maxRecDepth 65536 in
theorem w_named : about1.methodNamed? x = some theMethod := by decide +kernel
set_option maxRecDepth 65536 in
theorem w_hears : about1.hears theMethod below0 = true := by decide +kernel
set_option maxRecDepth 65536 in
theorem w_ripe : about1.ripe theMethod args0 below0 = true := by decide +kernel
theorem w_running : about1.status = .running := rfl
set_option maxRecDepth 65536 in
theorem w_room : about1.hasRoom e0.platform room_1 = true :=
  launch0.hasRoom_least _ room_1 (by decide +kernel) (by decide +kernel) (by decide +kernel) (by decide +kernel) (by decide +kernel) (by decide +kernel)
theorem allAtoms_all (ts : List Jvm.Cond) (a : Array Jvm.Value) (st : Jvm.State) : (allAtoms ts).before a st = ts.all (fun c => c.before a st) := by
  induction ts with
  | nil => rfl
  | cons c t ih =>
    show (Jvm.Cond.and c (allAtoms t)).before a st = _
    rw [Jvm.Cond.before_and, ih, List.all_cons]
def words1 : List Jvm.Cond := Jvm.Cond.code x code maxLocals ret :: tables_1
/-- a 'code' word, met by the world's own term for the bytes: nothing is compared byte by byte -/
theorem code_word {y : MethodName} {bytes : ByteArray} {mx : Nat} {rt : Option FieldType} {a : Array Value} {s : State} {m : MethodId} {meth : Method} {c : Code} (h1 : s.methodNamed? y = some m) (h2 : s.vm.method? m = some meth) (h3 : meth.code = some c) (h4 : c.code = bytes)
    (h5 : (c.maxLocals == mx && c.exceptionTable.isEmpty && decide (c.maxStack ≤ mostOperands) && decide (meth.sig.returnType = rt) && !meth.locks && decide (parseMethodDescriptor y.desc = some meth.sig)) = true) : (Jvm.Cond.code y bytes mx rt).before a s = true := by
  simp only [Bool.and_eq_true, beq_iff_eq, Bool.not_eq_true', decide_eq_true_eq] at h5
  obtain ⟨⟨⟨⟨⟨g1, g2⟩, g3⟩, g4⟩, g5⟩, g6⟩ := h5
  simp [Cond.before, Cond.holds, Cond.value, h1, h2, h3, h4, g1, g2, g3, g4, g5, g6]
def isCode : Jvm.Cond → Bool
  | .code _ _ _ _ => true
  | _ => false
theorem all_split {L : List Jvm.Cond} {P : Jvm.Cond → Bool} (h1 : L.all (fun c => isCode c || P c) = true) (h2 : ∀ c ∈ L.filter isCode, P c = true) : L.all P = true := by
  refine List.all_eq_true.mpr fun c hc => ?_
  have h := List.all_eq_true.mp h1 c hc
  rcases Bool.eq_false_or_eq_true (isCode c) with hi | hi
  · exact h2 c (List.mem_filter.mpr ⟨hc, hi⟩)
  · simpa [hi] using h
set_option maxRecDepth 65536 in
theorem w_c0 : (Jvm.Cond.code x code maxLocals ret).before args0 about1 = true := code_word (m := ⟨1, 2⟩) (meth := k1m2) (c := k1c2) (by decide +kernel) rfl rfl rfl (by decide +kernel)
set_option maxRecDepth 65536 in
theorem w_c1 : (Jvm.Cond.code ({ cls := "com/example/fairgauge/fairgauge/io/RecordFieldPinLaw", name := "drawn", desc := "(I)Ljava/lang/String;" } : Jvm.MethodName) method_2_code (2 : Nat) (Option.some (Jvm.ClassFile.FieldType.object "java/lang/String"))).before args0 about1 = true := code_word (m := ⟨1, 1⟩) (meth := k1m1) (c := k1c1) (by decide +kernel) rfl rfl rfl (by decide +kernel)
set_option maxRecDepth 65536 in
theorem w_c2 : (Jvm.Cond.code ({ cls := "java/lang/String", name := "<init>", desc := "([C)V" } : Jvm.MethodName) jdk_42_method_3_code (2 : Nat) (Option.none : Option Jvm.ClassFile.FieldType)).before args0 about1 = true := code_word (m := ⟨7, 1⟩) (meth := k7m1) (c := k7c1) (by decide +kernel) rfl rfl rfl (by decide +kernel)
set_option maxRecDepth 65536 in
theorem w_c3 : (Jvm.Cond.code ({ cls := "java/lang/String", name := "<init>", desc := "([CIILjava/lang/Void;)V" } : Jvm.MethodName) jdk_42_method_149_code (6 : Nat) (Option.none : Option Jvm.ClassFile.FieldType)).before args0 about1 = true := code_word (m := ⟨7, 2⟩) (meth := k7m2) (c := k7c2) (by decide +kernel) rfl rfl rfl (by decide +kernel)
set_option maxRecDepth 65536 in
theorem w_c4 : (Jvm.Cond.code ({ cls := "java/lang/Object", name := "<init>", desc := "()V" } : Jvm.MethodName) object_method_1_code (1 : Nat) (Option.none : Option Jvm.ClassFile.FieldType)).before args0 about1 = true := code_word (m := ⟨0, 0⟩) (meth := k0m0) (c := k0c0) (by decide +kernel) rfl rfl rfl (by decide +kernel)
set_option maxRecDepth 65536 in
theorem w_c5 : (Jvm.Cond.code ({ cls := "java/lang/StringUTF16", name := "compress", desc := "([CII)[B" } : Jvm.MethodName) jdk_52_method_16_code (6 : Nat) (Option.some (Jvm.ClassFile.FieldType.array Jvm.ClassFile.FieldType.byte))).before args0 about1 = true := code_word (m := ⟨8, 2⟩) (meth := k8m2) (c := k8c2) (by decide +kernel) rfl rfl rfl (by decide +kernel)
set_option maxRecDepth 65536 in
theorem w_c6 : (Jvm.Cond.code ({ cls := "java/lang/StringUTF16", name := "compress", desc := "([CI[BII)I" } : Jvm.MethodName) jdk_52_method_21_code (7 : Nat) (Option.some Jvm.ClassFile.FieldType.int)).before args0 about1 = true := code_word (m := ⟨8, 3⟩) (meth := k8m3) (c := k8c3) (by decide +kernel) rfl rfl rfl (by decide +kernel)
set_option maxRecDepth 65536 in
theorem w_c7 : (Jvm.Cond.code ({ cls := "java/lang/StringUTF16", name := "coderFromArrayLen", desc := "([BI)B" } : Jvm.MethodName) jdk_52_method_15_code (2 : Nat) (Option.some Jvm.ClassFile.FieldType.byte)).before args0 about1 = true := code_word (m := ⟨8, 1⟩) (meth := k8m1) (c := k8c1) (by decide +kernel) rfl rfl rfl (by decide +kernel)
set_option maxRecDepth 65536 in
theorem w_c8 : (Jvm.Cond.code ({ cls := "java/util/ArrayList", name := "<init>", desc := "()V" } : Jvm.MethodName) jdk_38_method_2_code (1 : Nat) (Option.none : Option Jvm.ClassFile.FieldType)).before args0 about1 = true := code_word (m := ⟨17, 0⟩) (meth := k17m0) (c := k17c0) (by decide +kernel) rfl rfl rfl (by decide +kernel)
set_option maxRecDepth 65536 in
theorem w_c9 : (Jvm.Cond.code ({ cls := "java/util/AbstractList", name := "<init>", desc := "()V" } : Jvm.MethodName) jdk_39_method_1_code (1 : Nat) (Option.none : Option Jvm.ClassFile.FieldType)).before args0 about1 = true := code_word (m := ⟨14, 0⟩) (meth := k14m0) (c := k14c0) (by decide +kernel) rfl rfl rfl (by decide +kernel)
set_option maxRecDepth 65536 in
theorem w_c10 : (Jvm.Cond.code ({ cls := "java/util/AbstractCollection", name := "<init>", desc := "()V" } : Jvm.MethodName) jdk_22_method_1_code (1 : Nat) (Option.none : Option Jvm.ClassFile.FieldType)).before args0 about1 = true := code_word (m := ⟨11, 0⟩) (meth := k11m0) (c := k11c0) (by decide +kernel) rfl rfl rfl (by decide +kernel)
set_option maxRecDepth 65536 in
theorem w_c11 : (Jvm.Cond.code ({ cls := "java/util/ArrayList", name := "add", desc := "(Ljava/lang/Object;)Z" } : Jvm.MethodName) jdk_38_method_25_code (2 : Nat) (Option.some Jvm.ClassFile.FieldType.boolean)).before args0 about1 = true := code_word (m := ⟨17, 6⟩) (meth := k17m6) (c := k17c6) (by decide +kernel) rfl rfl rfl (by decide +kernel)
set_option maxRecDepth 65536 in
theorem w_c12 : (Jvm.Cond.code ({ cls := "java/util/ArrayList", name := "add", desc := "(Ljava/lang/Object;[Ljava/lang/Object;I)V" } : Jvm.MethodName) jdk_38_method_24_code (4 : Nat) (Option.none : Option Jvm.ClassFile.FieldType)).before args0 about1 = true := code_word (m := ⟨17, 5⟩) (meth := k17m5) (c := k17c5) (by decide +kernel) rfl rfl rfl (by decide +kernel)
set_option maxRecDepth 65536 in
theorem w_c13 : (Jvm.Cond.code ({ cls := "java/util/ArrayList", name := "grow", desc := "()[Ljava/lang/Object;" } : Jvm.MethodName) jdk_38_method_7_code (1 : Nat) (Option.some (Jvm.ClassFile.FieldType.array (Jvm.ClassFile.FieldType.object "java/lang/Object")))).before args0 about1 = true := code_word (m := ⟨17, 2⟩) (meth := k17m2) (c := k17c2) (by decide +kernel) rfl rfl rfl (by decide +kernel)
set_option maxRecDepth 65536 in
theorem w_c14 : (Jvm.Cond.code ({ cls := "java/util/ArrayList", name := "grow", desc := "(I)[Ljava/lang/Object;" } : Jvm.MethodName) jdk_38_method_6_code (4 : Nat) (Option.some (Jvm.ClassFile.FieldType.array (Jvm.ClassFile.FieldType.object "java/lang/Object")))).before args0 about1 = true := code_word (m := ⟨17, 1⟩) (meth := k17m1) (c := k17c1) (by decide +kernel) rfl rfl rfl (by decide +kernel)
set_option maxRecDepth 65536 in
theorem w_c15 : (Jvm.Cond.code ({ cls := "java/lang/Math", name := "max", desc := "(II)I" } : Jvm.MethodName) jdk_29_method_65_code (2 : Nat) (Option.some Jvm.ClassFile.FieldType.int)).before args0 about1 = true := code_word (m := ⟨18, 1⟩) (meth := k18m1) (c := k18c1) (by decide +kernel) rfl rfl rfl (by decide +kernel)
set_option maxRecDepth 65536 in
theorem w_c16 : (Jvm.Cond.code ({ cls := "com/example/fairgauge/fairgauge/io/CsvInput$Record", name := "<init>", desc := "(ILjava/util/List;)V" } : Jvm.MethodName) prog_80_method_1_code (3 : Nat) (Option.none : Option Jvm.ClassFile.FieldType)).before args0 about1 = true := code_word (m := ⟨20, 0⟩) (meth := k20m0) (c := k20c0) (by decide +kernel) rfl rfl rfl (by decide +kernel)
set_option maxRecDepth 65536 in
theorem w_c17 : (Jvm.Cond.code ({ cls := "java/lang/Record", name := "<init>", desc := "()V" } : Jvm.MethodName) jdk_30_method_1_code (1 : Nat) (Option.none : Option Jvm.ClassFile.FieldType)).before args0 about1 = true := code_word (m := ⟨19, 0⟩) (meth := k19m0) (c := k19c0) (by decide +kernel) rfl rfl rfl (by decide +kernel)
set_option maxRecDepth 65536 in
theorem w_c18 : (Jvm.Cond.code ({ cls := "com/example/fairgauge/fairgauge/io/CsvInput$Record", name := "field", desc := "(I)Ljava/lang/String;" } : Jvm.MethodName) prog_80_method_2_code (2 : Nat) (Option.some (Jvm.ClassFile.FieldType.object "java/lang/String"))).before args0 about1 = true := code_word (m := ⟨20, 1⟩) (meth := k20m1) (c := k20c1) (by decide +kernel) rfl rfl rfl (by decide +kernel)
set_option maxRecDepth 65536 in
theorem w_c19 : (Jvm.Cond.code ({ cls := "java/util/ArrayList", name := "get", desc := "(I)Ljava/lang/Object;" } : Jvm.MethodName) jdk_38_method_20_code (2 : Nat) (Option.some (Jvm.ClassFile.FieldType.object "java/lang/Object"))).before args0 about1 = true := code_word (m := ⟨17, 4⟩) (meth := k17m4) (c := k17c4) (by decide +kernel) rfl rfl rfl (by decide +kernel)
set_option maxRecDepth 65536 in
theorem w_c20 : (Jvm.Cond.code ({ cls := "java/util/Objects", name := "checkIndex", desc := "(II)I" } : Jvm.MethodName) jdk_31_method_17_code (2 : Nat) (Option.some Jvm.ClassFile.FieldType.int)).before args0 about1 = true := code_word (m := ⟨21, 1⟩) (meth := k21m1) (c := k21c1) (by decide +kernel) rfl rfl rfl (by decide +kernel)
set_option maxRecDepth 65536 in
theorem w_c21 : (Jvm.Cond.code ({ cls := "jdk/internal/util/Preconditions", name := "checkIndex", desc := "(IILjava/util/function/BiFunction;)I" } : Jvm.MethodName) jdk_41_method_11_code (3 : Nat) (Option.some Jvm.ClassFile.FieldType.int)).before args0 about1 = true := code_word (m := ⟨22, 1⟩) (meth := k22m1) (c := k22c1) (by decide +kernel) rfl rfl rfl (by decide +kernel)
set_option maxRecDepth 65536 in
theorem w_c22 : (Jvm.Cond.code ({ cls := "java/util/ArrayList", name := "elementData", desc := "(I)Ljava/lang/Object;" } : Jvm.MethodName) jdk_38_method_18_code (2 : Nat) (Option.some (Jvm.ClassFile.FieldType.object "java/lang/Object"))).before args0 about1 = true := code_word (m := ⟨17, 3⟩) (meth := k17m3) (c := k17c3) (by decide +kernel) rfl rfl rfl (by decide +kernel)
def codes1 : List Jvm.Cond := [Jvm.Cond.code x code maxLocals ret, Jvm.Cond.code ({ cls := "com/example/fairgauge/fairgauge/io/RecordFieldPinLaw", name := "drawn", desc := "(I)Ljava/lang/String;" } : Jvm.MethodName) method_2_code (2 : Nat) (Option.some (Jvm.ClassFile.FieldType.object "java/lang/String")), Jvm.Cond.code ({ cls := "java/lang/String", name := "<init>", desc := "([C)V" } : Jvm.MethodName) jdk_42_method_3_code (2 : Nat) (Option.none : Option Jvm.ClassFile.FieldType), Jvm.Cond.code ({ cls := "java/lang/String", name := "<init>", desc := "([CIILjava/lang/Void;)V" } : Jvm.MethodName) jdk_42_method_149_code (6 : Nat) (Option.none : Option Jvm.ClassFile.FieldType), Jvm.Cond.code ({ cls := "java/lang/Object", name := "<init>", desc := "()V" } : Jvm.MethodName) object_method_1_code (1 : Nat) (Option.none : Option Jvm.ClassFile.FieldType), Jvm.Cond.code ({ cls := "java/lang/StringUTF16", name := "compress", desc := "([CII)[B" } : Jvm.MethodName) jdk_52_method_16_code (6 : Nat) (Option.some (Jvm.ClassFile.FieldType.array Jvm.ClassFile.FieldType.byte)), Jvm.Cond.code ({ cls := "java/lang/StringUTF16", name := "compress", desc := "([CI[BII)I" } : Jvm.MethodName) jdk_52_method_21_code (7 : Nat) (Option.some Jvm.ClassFile.FieldType.int), Jvm.Cond.code ({ cls := "java/lang/StringUTF16", name := "coderFromArrayLen", desc := "([BI)B" } : Jvm.MethodName) jdk_52_method_15_code (2 : Nat) (Option.some Jvm.ClassFile.FieldType.byte), Jvm.Cond.code ({ cls := "java/util/ArrayList", name := "<init>", desc := "()V" } : Jvm.MethodName) jdk_38_method_2_code (1 : Nat) (Option.none : Option Jvm.ClassFile.FieldType), Jvm.Cond.code ({ cls := "java/util/AbstractList", name := "<init>", desc := "()V" } : Jvm.MethodName) jdk_39_method_1_code (1 : Nat) (Option.none : Option Jvm.ClassFile.FieldType), Jvm.Cond.code ({ cls := "java/util/AbstractCollection", name := "<init>", desc := "()V" } : Jvm.MethodName) jdk_22_method_1_code (1 : Nat) (Option.none : Option Jvm.ClassFile.FieldType), Jvm.Cond.code ({ cls := "java/util/ArrayList", name := "add", desc := "(Ljava/lang/Object;)Z" } : Jvm.MethodName) jdk_38_method_25_code (2 : Nat) (Option.some Jvm.ClassFile.FieldType.boolean), Jvm.Cond.code ({ cls := "java/util/ArrayList", name := "add", desc := "(Ljava/lang/Object;[Ljava/lang/Object;I)V" } : Jvm.MethodName) jdk_38_method_24_code (4 : Nat) (Option.none : Option Jvm.ClassFile.FieldType), Jvm.Cond.code ({ cls := "java/util/ArrayList", name := "grow", desc := "()[Ljava/lang/Object;" } : Jvm.MethodName) jdk_38_method_7_code (1 : Nat) (Option.some (Jvm.ClassFile.FieldType.array (Jvm.ClassFile.FieldType.object "java/lang/Object"))), Jvm.Cond.code ({ cls := "java/util/ArrayList", name := "grow", desc := "(I)[Ljava/lang/Object;" } : Jvm.MethodName) jdk_38_method_6_code (4 : Nat) (Option.some (Jvm.ClassFile.FieldType.array (Jvm.ClassFile.FieldType.object "java/lang/Object"))), Jvm.Cond.code ({ cls := "java/lang/Math", name := "max", desc := "(II)I" } : Jvm.MethodName) jdk_29_method_65_code (2 : Nat) (Option.some Jvm.ClassFile.FieldType.int), Jvm.Cond.code ({ cls := "com/example/fairgauge/fairgauge/io/CsvInput$Record", name := "<init>", desc := "(ILjava/util/List;)V" } : Jvm.MethodName) prog_80_method_1_code (3 : Nat) (Option.none : Option Jvm.ClassFile.FieldType), Jvm.Cond.code ({ cls := "java/lang/Record", name := "<init>", desc := "()V" } : Jvm.MethodName) jdk_30_method_1_code (1 : Nat) (Option.none : Option Jvm.ClassFile.FieldType), Jvm.Cond.code ({ cls := "com/example/fairgauge/fairgauge/io/CsvInput$Record", name := "field", desc := "(I)Ljava/lang/String;" } : Jvm.MethodName) prog_80_method_2_code (2 : Nat) (Option.some (Jvm.ClassFile.FieldType.object "java/lang/String")), Jvm.Cond.code ({ cls := "java/util/ArrayList", name := "get", desc := "(I)Ljava/lang/Object;" } : Jvm.MethodName) jdk_38_method_20_code (2 : Nat) (Option.some (Jvm.ClassFile.FieldType.object "java/lang/Object")), Jvm.Cond.code ({ cls := "java/util/Objects", name := "checkIndex", desc := "(II)I" } : Jvm.MethodName) jdk_31_method_17_code (2 : Nat) (Option.some Jvm.ClassFile.FieldType.int), Jvm.Cond.code ({ cls := "jdk/internal/util/Preconditions", name := "checkIndex", desc := "(IILjava/util/function/BiFunction;)I" } : Jvm.MethodName) jdk_41_method_11_code (3 : Nat) (Option.some Jvm.ClassFile.FieldType.int), Jvm.Cond.code ({ cls := "java/util/ArrayList", name := "elementData", desc := "(I)Ljava/lang/Object;" } : Jvm.MethodName) jdk_38_method_18_code (2 : Nat) (Option.some (Jvm.ClassFile.FieldType.object "java/lang/Object"))]
set_option maxRecDepth 65536 in
theorem codes_eq : words1.filter isCode = codes1 := rfl
theorem w_codes : ∀ c ∈ words1.filter isCode, c.before args0 about1 = true := by
  rw [codes_eq]
  intro c hc
  simp only [codes1, List.mem_cons, List.not_mem_nil, or_false] at hc
  rcases hc with rfl | rfl | rfl | rfl | rfl | rfl | rfl | rfl | rfl | rfl | rfl | rfl | rfl | rfl | rfl | rfl | rfl | rfl | rfl | rfl | rfl | rfl | rfl
  · exact w_c0
  · exact w_c1
  · exact w_c2
  · exact w_c3
  · exact w_c4
  · exact w_c5
  · exact w_c6
  · exact w_c7
  · exact w_c8
  · exact w_c9
  · exact w_c10
  · exact w_c11
  · exact w_c12
  · exact w_c13
  · exact w_c14
  · exact w_c15
  · exact w_c16
  · exact w_c17
  · exact w_c18
  · exact w_c19
  · exact w_c20
  · exact w_c21
  · exact w_c22
set_option maxRecDepth 65536 in
theorem w_t1 : (words1.take 24).all (fun c => isCode c || c.before args0 about1) = true := by decide +kernel
set_option maxRecDepth 65536 in
theorem w_t2 : ((words1.drop 24).take 24).all (fun c => isCode c || c.before args0 about1) = true := by decide +kernel
set_option maxRecDepth 65536 in
theorem w_t3 : (((words1.drop 24).drop 24).take 24).all (fun c => isCode c || c.before args0 about1) = true := by decide +kernel
set_option maxRecDepth 65536 in
theorem w_t4 : ((((words1.drop 24).drop 24).drop 24).take 24).all (fun c => isCode c || c.before args0 about1) = true := by decide +kernel
set_option maxRecDepth 65536 in
theorem w_t5 : (((((words1.drop 24).drop 24).drop 24).drop 24).take 24).all (fun c => isCode c || c.before args0 about1) = true := by decide +kernel
set_option maxRecDepth 65536 in
theorem w_t6 : (((((words1.drop 24).drop 24).drop 24).drop 24).drop 24).all (fun c => isCode c || c.before args0 about1) = true := by decide +kernel
theorem w_tables : (allAtoms (Jvm.Cond.code x code maxLocals ret :: tables_1)).before args0 about1 = true := by
  rw [allAtoms_all]
  show words1.all (fun c => c.before args0 about1) = true
  refine all_split ?_ w_codes
  rw [← List.take_append_drop 24 words1, List.all_append, w_t1, ← List.take_append_drop 24 (words1.drop 24), List.all_append, w_t2, ← List.take_append_drop 24 ((words1.drop 24).drop 24), List.all_append, w_t3, ← List.take_append_drop 24 (((words1.drop 24).drop 24).drop 24), List.all_append, w_t4, ← List.take_append_drop 24 ((((words1.drop 24).drop 24).drop 24).drop 24), List.all_append, w_t5, w_t6]
  rfl
set_option maxRecDepth 65536 in
theorem w_rest : rest_1_c.before args0 about1 = true := by decide +kernel
set_option maxRecDepth 65536 in
theorem w_case : (Jvm.Cond.and given_1 narrow_1).before args0 about1 = true := by decide +kernel
theorem w_applies : (headSpec (Jvm.Cond.code x code maxLocals ret :: tables_1) room_1).applies x e0.platform about1 = true :=
  (Spec.applies_iff w_frames).mpr ⟨w_running, w_runnable, w_alone, w_named, w_hears, w_ripe, w_room, w_tables⟩
theorem atStart : AtStart classFile x code maxLocals ret World_1 tables_1 room_1 Calls_1 rest_1 Pre_1 launch0 p0 e0 about1 theMethod args0 below0 :=
  ⟨lists_1, trivial, launch0.admits_env _ _ _, launch0.least_env, fairChoices_fair.cas, fairChoices_fair.clock, w_frames, w_args, w_heap, w_applies, trivial, w_rest, w_case⟩
end start1
theorem witness_1 : WitnessClaimed_1 := ⟨start1.p0, start1.e0, start1.about1, start1.theMethod, start1.args0, start1.below0, start1.atStart⟩
end Jvm.Pilot.@@N@@
