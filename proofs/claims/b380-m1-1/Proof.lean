import JvmDerived
import JvmDerived.Pilot.@@N@@Statement
import JvmDerived.Pilot.@@N@@Code
set_option linter.unusedVariables false
set_option linter.unusedSimpArgs false

namespace Jvm.Own
open Sem ClassFile Op Lib Jvm.Stand Jvm.Free Jvm.LawKit Jvm.RoadKit
/-! the walk in continuation style: Wlk says that from here the run ends as wanted -/
abbrev JJ : Type := Bool × List String × List (String × Nat × Addr)
abbrev Cx : Type := Program × Launch × Env × State × MethodId × Array Value × List Frame × Method × Code
abbrev Cx.p (G : Cx) : Program := G.1
abbrev Cx.l (G : Cx) : Launch := G.2.1
abbrev Cx.e (G : Cx) : Env := G.2.2.1
abbrev Cx.s (G : Cx) : State := G.2.2.2.1
abbrev Cx.m (G : Cx) : MethodId := G.2.2.2.2.1
abbrev Cx.args (G : Cx) : Array Value := G.2.2.2.2.2.1
abbrev Cx.below (G : Cx) : List Frame := G.2.2.2.2.2.2.1
abbrev Cx.meth (G : Cx) : Method := G.2.2.2.2.2.2.2.1
abbrev Cx.c (G : Cx) : Code := G.2.2.2.2.2.2.2.2
/-- the texts loaded since the case's start; the entries known to be resolved -/
def Books (Z : State) (vm : Vm) (J : JJ) : Prop := J.1 = true → IB Z vm J.2.1 ∧ ∀ x ∈ J.2.2, Lit (Z.setVm vm) x.1 x.2.1 x.2.2
theorem Books.warm {Z s : State} {vm0 vm1 : Vm} {J : JJ} (B : Books Z vm0 J) (h : (s.setVm vm0).WarmedH vm1) : Books Z vm1 J := by
  intro hj
  refine ⟨?_, fun x hx => ?_⟩
  · obtain ⟨more, e, r⟩ := (B hj).1
    exact ⟨more, h.interned_eq.trans e, r⟩
  · exact Lit.stays (s := s) ((B hj).2 x hx) h.wide
def EndM (w : Bool) (s : State) (o : Outcome) (t : State) (L : List Loc) (k n : Nat) : Prop := ReturnedEndW s o t L k n ∧ (w = false → s.WarmedH t.vm)
def Pos (G : Cx) (R : Room) (Z : State) (own : String) (w : Bool) (J : JJ) (T : State) (h : Heap) (L : List Loc) (k n : Nat) : Prop :=
  ∃ (vm0 : Vm) (k0 : Nat), Stand G.p G.l G.e R (G.s.setVm vm0) G.m G.args G.below G.meth G.c T L k n ∧ T.heap = h ∧ G.s.Since vm0 k0 ∧ k0 ≤ h.size ∧ Z.Warmed39 vm0 ∧ vm0.findClass own = some G.m.cls ∧ (w = false → vm0 = G.s.vm) ∧ (w = true → Books Z vm0 J) ∧ Ext Z.heap h ∧ Fr Z.heap.size L
def Go (G : Cx) (R : Room) (Z : State) (w : Bool) (Q : Option Value → Heap → JJ → Prop) (U : State) : Prop :=
  ∃ (s₂ : State) (o : Outcome), Steps G.p.tables G.e G.below U s₂ ∧ s₂.status = .running ∧ Ended s₂ G.below o ∧
    ∃ (v : Option Value) (L : List Loc) (J' : JJ), o = .returned v ∧ (Q v s₂.heap J' ∧ Fr Z.heap.size L ∧ Ext Z.heap s₂.heap ∧ (w = true → Books Z s₂.vm J')) ∧ EndM w G.s o s₂ L R.cells R.slots
def Cok (G : Cx) (y : MethodName) (code : ByteArray) (ret : Option FieldType) : Prop :=
  G.p.tables.exec = Jvm.exec ∧ G.c.code = code ∧ G.meth.sig.returnType = ret ∧ G.meth.locks = false ∧ G.meth.name = y.name
def Wlk (G : Cx) (R : Room) (Z : State) (y : MethodName) (code : ByteArray) (ret : Option FieldType) (w : Bool) (J : JJ) (Q : Option Value → Heap → JJ → Prop) (h : Heap) (k n pc : Nat) (Ls : Array Slot) (st : List Value) : Prop :=
  Cok G y code ret → Ls.size = G.c.maxLocals → ∀ (T : State) (L : List Loc), Pos G R Z y.cls w J T h L k n → Go G R Z w Q (T.setTop (mkF G.m pc Ls st))
/-- what a body does: from the arguments and the heap h it returns as Q says -/
def Met (l : Launch) (Z : State) (y : MethodName) (code : ByteArray) (ml : Nat) (ret : Option FieldType) (w : Bool) (ws : List Jvm.Cond) (rm : Room) (as' : Array Value) (h : Heap) (J : JJ) (Q : Option Value → Heap → JJ → Prop) : Prop :=
  MetFree l y (head1 (Jvm.Cond.code y code ml ret :: ws) rm) (fun a U => a = as' ∧ Z.Warmed39 U.vm ∧ U.heap = h ∧ Ext Z.heap h ∧ (w = true → Books Z U.vm J)) (fun _ _ _ _ _ => True)
    (fun _ U o U' => ∃ (v : Option Value) (L : List Loc) (J' : JJ), o = .returned v ∧ (Q v U'.heap J' ∧ Fr Z.heap.size L ∧ Ext Z.heap U'.heap ∧ (w = true → Books Z U'.vm J')) ∧ EndM w U o U' L rm.cells rm.slots)
theorem Met.of_goes {l : Launch} {Z : State} {y : MethodName} {code : ByteArray} {ml : Nat} {ret : Option FieldType} {w : Bool} {ws : List Jvm.Cond} {rm : Room} {as' : Array Value} {h : Heap} {J : JJ} {Q : Option Value → Heap → JJ → Prop}
    (hx : plainFor y = true) {Ls : Array Slot} (hef : ∀ m, entryFrame m as' ml = mkF m 0 Ls []) (hsz : Ls.size = ml) (H : ∀ G : Cx, G.l = l → Wlk G rm Z y code ret w J Q h 0 0 0 Ls []) : Met l Z y code ml ret w ws rm as' h J Q := by
  refine MetFree.of_bodySF hx hisR ?_
  intro p e s m args below meth c s₁ Bd hml hP hK
  obtain ⟨rfl, hZ, hh, hE, hB⟩ := hP
  have X0 : Stand p l e rm s m args below meth c s₁ [] 0 0 := Stand.of_body Bd
  obtain ⟨s₂, o, hs, r⟩ := H (p, l, e, s, m, args, below, meth, c) rfl ⟨Bd.exec, Bd.bytes, Bd.returns, Bd.notSynchronized, (name_of_methodNamed Bd.named Bd.method).1⟩ (hsz.trans hml.symm) s₁ [] ⟨s.vm, 0, X0, by rw [← hh, Bd.state]; rfl, (State.WarmedH.refl s).since 0, Nat.zero_le _, hZ, findClass_of_methodNamed Bd.named, fun _ => rfl, hB, hE, Fr.nil _⟩
  exact ⟨s₂, o, castTop (hef m) hs, r⟩
section Walk
variable {G : Cx} {R : Room} {Z : State} {y : MethodName} {code : ByteArray} {ret : Option FieldType} {w : Bool} {J : JJ} {Q : Option Value → Heap → JJ → Prop} {h : Heap} {k n pc pc' : Nat} {Ls Ls' : Array Slot} {st st' : List Value} {a0 : Array Value}
theorem Wlk.plain (hz : Ls'.size = Ls.size) (hstep : Cok G y code ret → ∀ (T target : State), At T G.m G.c G.below → Steps G.p.tables G.e G.below (T.setTop (mkF G.m pc' Ls' st')) target → Steps G.p.tables G.e G.below (T.setTop (mkF G.m pc Ls st)) target) (H : Wlk G R Z y code ret w J Q h k n pc' Ls' st') : Wlk G R Z y code ret w J Q h k n pc Ls st := by
  intro hG hsz T L hP
  obtain ⟨s₂, o, hs, r⟩ := H hG (hz.trans hsz) T L hP
  obtain ⟨vm0, k0, X, -⟩ := hP
  exact ⟨s₂, o, hstep hG T _ X.here hs, r⟩
/-- a step that reads the tables or the heap and changes no cell -/
theorem Wlk.reads (hz : Ls'.size = Ls.size) (hstep : ∀ (vm0 : Vm) (T : State) (L : List Loc), Cok G y code ret → Ls.size = G.c.maxLocals → Stand G.p G.l G.e R (G.s.setVm vm0) G.m G.args G.below G.meth G.c T L k n → T.heap = h → Z.Warmed39 vm0 → vm0.findClass y.cls = some G.m.cls → Ext Z.heap h →
      ∃ T' : State, Stand G.p G.l G.e R (G.s.setVm vm0) G.m G.args G.below G.meth G.c T' L k n ∧ T'.heap = h ∧ ∀ target, Steps G.p.tables G.e G.below (T'.setTop (mkF G.m pc' Ls' st')) target → Steps G.p.tables G.e G.below (T.setTop (mkF G.m pc Ls st)) target)
    (H : Wlk G R Z y code ret w J Q h k n pc' Ls' st') : Wlk G R Z y code ret w J Q h k n pc Ls st := by
  intro hG hsz T L hP
  obtain ⟨vm0, k0, X, eT, hS, hk, hZ, hown, hw, hB, hE, hF⟩ := hP
  obtain ⟨T', X', e', st'⟩ := hstep vm0 T L hG hsz X eT hZ hown hE
  obtain ⟨s₂, o, hs, r⟩ := H hG (hz.trans hsz) T' L ⟨vm0, k0, X', e', hS, hk, hZ, hown, hw, hB, hE, hF⟩
  exact ⟨s₂, o, st' _ hs, r⟩
/-- a step that writes or makes -/
theorem Wlk.moves {k' n' : Nat} (hz : Ls'.size = Ls.size) {P : Heap → Prop} (hstep : ∀ (vm0 : Vm) (T : State) (L : List Loc), Cok G y code ret → Ls.size = G.c.maxLocals → Stand G.p G.l G.e R (G.s.setVm vm0) G.m G.args G.below G.meth G.c T L k n → T.heap = h → Z.Warmed39 vm0 → vm0.findClass y.cls = some G.m.cls → Ext Z.heap h → Fr Z.heap.size L →
      ∃ (T' : State) (h' : Heap) (L' : List Loc), Stand G.p G.l G.e R (G.s.setVm vm0) G.m G.args G.below G.meth G.c T' L' k' n' ∧ T'.heap = h' ∧ h.size ≤ h'.size ∧ Ext Z.heap h' ∧ Fr Z.heap.size L' ∧ P h' ∧ ∀ target, Steps G.p.tables G.e G.below (T'.setTop (mkF G.m pc' Ls' st')) target → Steps G.p.tables G.e G.below (T.setTop (mkF G.m pc Ls st)) target)
    (H : ∀ h', P h' → Wlk G R Z y code ret w J Q h' k' n' pc' Ls' st') : Wlk G R Z y code ret w J Q h k n pc Ls st := by
  intro hG hsz T L hP
  obtain ⟨vm0, k0, X, eT, hS, hk, hZ, hown, hw, hB, hE, hF⟩ := hP
  obtain ⟨T', h', L', X', e', hle, hE', hF', hP', st'⟩ := hstep vm0 T L hG hsz X eT hZ hown hE hF
  obtain ⟨s₂, o, hs, r⟩ := H h' hP' hG (hz.trans hsz) T' L' ⟨vm0, k0, X', e', hS, Nat.le_trans hk hle, hZ, hown, hw, hB, hE', hF'⟩
  exact ⟨s₂, o, st' _ hs, r⟩
theorem Wlk.more {k' n' : Nat} (hk' : k ≤ k') (hn' : n ≤ n') (H : Wlk G R Z y code ret w J Q h k' n' pc Ls st) : Wlk G R Z y code ret w J Q h k n pc Ls st := by
  intro hG hsz T L hP
  obtain ⟨vm0, k0, X, r⟩ := hP
  exact H hG hsz T L ⟨vm0, k0, X.more hk' hn', r⟩
theorem Wlk.ext0 (H : Ext Z.heap h → Wlk G R Z y code ret w J Q h k n pc Ls st) : Wlk G R Z y code ret w J Q h k n pc Ls st := fun hG hsz T L hP => H (by obtain ⟨vm0, k0, X, eT, hS, hk, hZ, hown, hw, hB, hE, hF⟩ := hP; exact hE) hG hsz T L hP
/-- the conditions of a branch, taken and not -/
def cT (cd : ClassFile.Cond) (x z : Int32) : Prop := match cd with
  | .eq => x = z
  | .ne => ¬ x = z
  | .lt => x < z
  | .ge => ¬ x < z
  | .gt => z < x
  | .le => ¬ z < x
def cF (cd : ClassFile.Cond) (x z : Int32) : Prop := match cd with
  | .eq => ¬ x = z
  | .ne => x = z
  | .lt => ¬ x < z
  | .ge => x < z
  | .gt => ¬ z < x
  | .le => z < x
theorem cT_holds {cd : ClassFile.Cond} {x z : Int32} (c : cT cd x z) : if_icmp.holds cd x z = true := by
  cases cd
  · exact (teq c).1
  · exact (feq c).2
  · exact (tlt c).1
  · exact (flt c).2.1
  · exact (tlt c).2.2.1
  · exact (flt c).2.2.2
theorem cF_holds {cd : ClassFile.Cond} {x z : Int32} (c : cF cd x z) : if_icmp.holds cd x z = false := by
  cases cd
  · exact (feq c).1
  · exact (teq c).2
  · exact (flt c).1
  · exact (tlt c).2.1
  · exact (flt c).2.2.1
  · exact (tlt c).2.2.2
theorem cTF (cd : ClassFile.Cond) (x z : Int32) : cT cd x z ∨ cF cd x z := by
  cases cd
  · exact Classical.em (x = z)
  · exact (Classical.em (x = z)).symm
  · exact Classical.em (x < z)
  · exact (Classical.em (x < z)).symm
  · exact Classical.em (z < x)
  · exact (Classical.em (z < x)).symm

theorem Wlk.aloadN {j : Fin 4} {v : Value} (hd : decode code pc = .ok (.aload_n j, 1)) (hl : Ls[j.val]? = some (.val v)) (hv : v.isRef = true) (hp : pc + 1 = pc') (H : Wlk G R Z y code ret w J Q h k n pc' Ls (v :: st)) : Wlk G R Z y code ret w J Q h k n pc Ls st := by
  subst hp
  exact Wlk.plain rfl (fun hG T t hA q => XS.aloadN hA hG.1 rfl (hb hG.2.1 hd) hl hv q) H
theorem Wlk.aload {j : Nat} {v : Value} (hd : decode code pc = .ok (.aload j, 2)) (hl : Ls[j]? = some (.val v)) (hv : v.isRef = true) (hp : pc + 2 = pc') (H : Wlk G R Z y code ret w J Q h k n pc' Ls (v :: st)) : Wlk G R Z y code ret w J Q h k n pc Ls st := by
  subst hp
  exact Wlk.plain rfl (fun hG T t hA q => XS.aload hA hG.1 rfl (hb hG.2.1 hd) hl hv q) H
theorem Wlk.iloadN {j : Fin 4} {v : Int32} (hd : decode code pc = .ok (.iload_n j, 1)) (hl : Ls[j.val]? = some (.val (.int v))) (hp : pc + 1 = pc') (H : Wlk G R Z y code ret w J Q h k n pc' Ls (.int v :: st)) : Wlk G R Z y code ret w J Q h k n pc Ls st := by
  subst hp
  exact Wlk.plain rfl (fun hG T t hA q => XS.iloadN hA hG.1 rfl (hb hG.2.1 hd) hl q) H
theorem Wlk.iload {j : Nat} {v : Int32} (hd : decode code pc = .ok (.iload j, 2)) (hl : Ls[j]? = some (.val (.int v))) (hp : pc + 2 = pc') (H : Wlk G R Z y code ret w J Q h k n pc' Ls (.int v :: st)) : Wlk G R Z y code ret w J Q h k n pc Ls st := by
  subst hp
  exact Wlk.plain rfl (fun hG T t hA q => XS.iload hA hG.1 rfl (hb hG.2.1 hd) hl q) H
theorem Wlk.lloadN {j : Fin 4} {v : Int64} (hd : decode code pc = .ok (.lload_n j, 1)) (hl : Ls[j.val]? = some (.val (.long v))) (hp : pc + 1 = pc') (H : Wlk G R Z y code ret w J Q h k n pc' Ls (.long v :: st)) : Wlk G R Z y code ret w J Q h k n pc Ls st := by
  subst hp
  exact Wlk.plain rfl (fun hG T t hA q => XT.lloadN hA hG.1 rfl (hb hG.2.1 hd) hl q) H
theorem Wlk.lload {j : Nat} {v : Int64} (hd : decode code pc = .ok (.lload j, 2)) (hl : Ls[j]? = some (.val (.long v))) (hp : pc + 2 = pc') (H : Wlk G R Z y code ret w J Q h k n pc' Ls (.long v :: st)) : Wlk G R Z y code ret w J Q h k n pc Ls st := by
  subst hp
  exact Wlk.plain rfl (fun hG T t hA q => XT.lload hA hG.1 rfl (hb hG.2.1 hd) hl q) H
theorem Wlk.iconst {i : Int} {v : Int32} (hd : decode code pc = .ok (.iconst i, 1)) (hv : Int32.ofInt i = v) (hp : pc + 1 = pc') (H : Wlk G R Z y code ret w J Q h k n pc' Ls (.int v :: st)) : Wlk G R Z y code ret w J Q h k n pc Ls st := by
  subst hp
  exact Wlk.plain rfl (fun hG T t hA q => XS.iconst hA hG.1 rfl (hb hG.2.1 hd) (by rw [hv]; exact q)) H
theorem Wlk.bipush {i : Int} {v : Int32} (hd : decode code pc = .ok (.bipush i, 2)) (hv : (Int8.ofInt i).toInt32 = v) (hp : pc + 2 = pc') (H : Wlk G R Z y code ret w J Q h k n pc' Ls (.int v :: st)) : Wlk G R Z y code ret w J Q h k n pc Ls st := by
  subst hp
  exact Wlk.plain rfl (fun hG T t hA q => XS.bipush hA hG.1 rfl (hb hG.2.1 hd) (by rw [hv]; exact q)) H
theorem Wlk.sipush {i : Int} {v : Int32} (hd : decode code pc = .ok (.sipush i, 3)) (hv : (Int16.ofInt i).toInt32 = v) (hp : pc + 3 = pc') (H : Wlk G R Z y code ret w J Q h k n pc' Ls (.int v :: st)) : Wlk G R Z y code ret w J Q h k n pc Ls st := by
  subst hp
  exact Wlk.plain rfl (fun hG T t hA q => XS.sipush hA hG.1 rfl (hb hG.2.1 hd) (by rw [hv]; exact q)) H
theorem Wlk.lconst {j : Fin 2} {v : Int64} (hd : decode code pc = .ok (.lconst j, 1)) (hv : Int64.ofNat j = v) (hp : pc + 1 = pc') (H : Wlk G R Z y code ret w J Q h k n pc' Ls (.long v :: st)) : Wlk G R Z y code ret w J Q h k n pc Ls st := by
  subst hp
  exact Wlk.plain rfl (fun hG T t hA q => XT.lconst hA hG.1 rfl (hb hG.2.1 hd) (by rw [hv]; exact q)) H
theorem Wlk.aconstNull  (hd : decode code pc = .ok (.aconst_null, 1)) (hp : pc + 1 = pc') (H : Wlk G R Z y code ret w J Q h k n pc' Ls (.null :: st)) : Wlk G R Z y code ret w J Q h k n pc Ls st := by
  subst hp
  exact Wlk.plain rfl (fun hG T t hA q => XS.aconstNull hA hG.1 rfl (hb hG.2.1 hd) q) H
theorem Wlk.iadd {x z : Int32} (hd : decode code pc = .ok (.iadd, 1)) (hp : pc + 1 = pc') (H : Wlk G R Z y code ret w J Q h k n pc' Ls (.int (x + z) :: st)) : Wlk G R Z y code ret w J Q h k n pc Ls (.int z :: .int x :: st) := by
  subst hp
  exact Wlk.plain rfl (fun hG T t hA q => XS.iadd hA hG.1 rfl (hb hG.2.1 hd) rfl q) H
theorem Wlk.isub {x z : Int32} (hd : decode code pc = .ok (.isub, 1)) (hp : pc + 1 = pc') (H : Wlk G R Z y code ret w J Q h k n pc' Ls (.int (x - z) :: st)) : Wlk G R Z y code ret w J Q h k n pc Ls (.int z :: .int x :: st) := by
  subst hp
  exact Wlk.plain rfl (fun hG T t hA q => XS.isub hA hG.1 rfl (hb hG.2.1 hd) rfl q) H
theorem Wlk.imul {x z : Int32} (hd : decode code pc = .ok (.imul, 1)) (hp : pc + 1 = pc') (H : Wlk G R Z y code ret w J Q h k n pc' Ls (.int (x * z) :: st)) : Wlk G R Z y code ret w J Q h k n pc Ls (.int z :: .int x :: st) := by
  subst hp
  exact Wlk.plain rfl (fun hG T t hA q => XS.imul hA hG.1 rfl (hb hG.2.1 hd) rfl q) H
theorem Wlk.iand {x z : Int32} (hd : decode code pc = .ok (.iand, 1)) (hp : pc + 1 = pc') (H : Wlk G R Z y code ret w J Q h k n pc' Ls (.int (x &&& z) :: st)) : Wlk G R Z y code ret w J Q h k n pc Ls (.int z :: .int x :: st) := by
  subst hp
  exact Wlk.plain rfl (fun hG T t hA q => XS.iand hA hG.1 rfl (hb hG.2.1 hd) rfl q) H
theorem Wlk.ior {x z : Int32} (hd : decode code pc = .ok (.ior, 1)) (hp : pc + 1 = pc') (H : Wlk G R Z y code ret w J Q h k n pc' Ls (.int (x ||| z) :: st)) : Wlk G R Z y code ret w J Q h k n pc Ls (.int z :: .int x :: st) := by
  subst hp
  exact Wlk.plain rfl (fun hG T t hA q => XT.ior hA hG.1 rfl (hb hG.2.1 hd) rfl q) H
theorem Wlk.ixor {x z : Int32} (hd : decode code pc = .ok (.ixor, 1)) (hp : pc + 1 = pc') (H : Wlk G R Z y code ret w J Q h k n pc' Ls (.int (x ^^^ z) :: st)) : Wlk G R Z y code ret w J Q h k n pc Ls (.int z :: .int x :: st) := by
  subst hp
  exact Wlk.plain rfl (fun hG T t hA q => XT.ixor hA hG.1 rfl (hb hG.2.1 hd) rfl q) H
theorem Wlk.irem {x z : Int32} (hd : decode code pc = .ok (.irem, 1)) (hne : z ≠ 0) (hp : pc + 1 = pc') (H : Wlk G R Z y code ret w J Q h k n pc' Ls (.int (x % z) :: st)) : Wlk G R Z y code ret w J Q h k n pc Ls (.int z :: .int x :: st) := by
  subst hp
  exact Wlk.reads rfl (fun vm0 T L hG hsz X eT hZ hown hE => ⟨T, X, eT, fun t q => iremM (g := mkF G.m pc Ls (.int z :: .int x :: st)) X hG.1 rfl (hb hG.2.1 hd) rfl hne q⟩) H
theorem Wlk.idiv {x z : Int32} (hd : decode code pc = .ok (.idiv, 1)) (hne : z ≠ 0) (hp : pc + 1 = pc') (H : Wlk G R Z y code ret w J Q h k n pc' Ls (.int (x / z) :: st)) : Wlk G R Z y code ret w J Q h k n pc Ls (.int z :: .int x :: st) := by
  subst hp
  exact Wlk.plain rfl (fun hG T t hA q => XS.idiv hA hG.1 rfl (hb hG.2.1 hd) rfl hne q) H
theorem Wlk.ishl {x z : Int32} (hd : decode code pc = .ok (.ishl, 1)) (hp : pc + 1 = pc') (H : Wlk G R Z y code ret w J Q h k n pc' Ls (.int (x <<< (z &&& 31)) :: st)) : Wlk G R Z y code ret w J Q h k n pc Ls (.int z :: .int x :: st) := by
  subst hp
  exact Wlk.plain rfl (fun hG T t hA q => XT.ishl hA hG.1 rfl (hb hG.2.1 hd) rfl q) H
theorem Wlk.ishr {x z : Int32} (hd : decode code pc = .ok (.ishr, 1)) (hp : pc + 1 = pc') (H : Wlk G R Z y code ret w J Q h k n pc' Ls (.int (x >>> (z &&& 31)) :: st)) : Wlk G R Z y code ret w J Q h k n pc Ls (.int z :: .int x :: st) := by
  subst hp
  exact Wlk.plain rfl (fun hG T t hA q => XT.ishr hA hG.1 rfl (hb hG.2.1 hd) rfl q) H
theorem Wlk.iushr {x z : Int32} (hd : decode code pc = .ok (.iushr, 1)) (hp : pc + 1 = pc') (H : Wlk G R Z y code ret w J Q h k n pc' Ls (.int ((x.toUInt32 >>> (z &&& 31).toUInt32).toInt32) :: st)) : Wlk G R Z y code ret w J Q h k n pc Ls (.int z :: .int x :: st) := by
  subst hp
  exact Wlk.plain rfl (fun hG T t hA q => XT.iushr hA hG.1 rfl (hb hG.2.1 hd) rfl q) H
theorem Wlk.ladd {x z : Int64} (hd : decode code pc = .ok (.ladd, 1)) (hp : pc + 1 = pc') (H : Wlk G R Z y code ret w J Q h k n pc' Ls (.long (x + z) :: st)) : Wlk G R Z y code ret w J Q h k n pc Ls (.long z :: .long x :: st) := by
  subst hp
  exact Wlk.plain rfl (fun hG T t hA q => XT.ladd hA hG.1 rfl (hb hG.2.1 hd) rfl q) H
theorem Wlk.lsub {x z : Int64} (hd : decode code pc = .ok (.lsub, 1)) (hp : pc + 1 = pc') (H : Wlk G R Z y code ret w J Q h k n pc' Ls (.long (x - z) :: st)) : Wlk G R Z y code ret w J Q h k n pc Ls (.long z :: .long x :: st) := by
  subst hp
  exact Wlk.plain rfl (fun hG T t hA q => XT.lsub hA hG.1 rfl (hb hG.2.1 hd) rfl q) H
theorem Wlk.lmul {x z : Int64} (hd : decode code pc = .ok (.lmul, 1)) (hp : pc + 1 = pc') (H : Wlk G R Z y code ret w J Q h k n pc' Ls (.long (x * z) :: st)) : Wlk G R Z y code ret w J Q h k n pc Ls (.long z :: .long x :: st) := by
  subst hp
  exact Wlk.plain rfl (fun hG T t hA q => XT.lmul hA hG.1 rfl (hb hG.2.1 hd) rfl q) H
theorem Wlk.land {x z : Int64} (hd : decode code pc = .ok (.land, 1)) (hp : pc + 1 = pc') (H : Wlk G R Z y code ret w J Q h k n pc' Ls (.long (x &&& z) :: st)) : Wlk G R Z y code ret w J Q h k n pc Ls (.long z :: .long x :: st) := by
  subst hp
  exact Wlk.plain rfl (fun hG T t hA q => XT.land hA hG.1 rfl (hb hG.2.1 hd) rfl q) H
theorem Wlk.lor {x z : Int64} (hd : decode code pc = .ok (.lor, 1)) (hp : pc + 1 = pc') (H : Wlk G R Z y code ret w J Q h k n pc' Ls (.long (x ||| z) :: st)) : Wlk G R Z y code ret w J Q h k n pc Ls (.long z :: .long x :: st) := by
  subst hp
  exact Wlk.plain rfl (fun hG T t hA q => XT.lor hA hG.1 rfl (hb hG.2.1 hd) rfl q) H
theorem Wlk.lxor {x z : Int64} (hd : decode code pc = .ok (.lxor, 1)) (hp : pc + 1 = pc') (H : Wlk G R Z y code ret w J Q h k n pc' Ls (.long (x ^^^ z) :: st)) : Wlk G R Z y code ret w J Q h k n pc Ls (.long z :: .long x :: st) := by
  subst hp
  exact Wlk.plain rfl (fun hG T t hA q => XT.lxor hA hG.1 rfl (hb hG.2.1 hd) rfl q) H
theorem Wlk.ineg {x : Int32} (hd : decode code pc = .ok (.ineg, 1)) (hp : pc + 1 = pc') (H : Wlk G R Z y code ret w J Q h k n pc' Ls (.int (-x) :: st)) : Wlk G R Z y code ret w J Q h k n pc Ls (.int x :: st) := by
  subst hp
  exact Wlk.plain rfl (fun hG T t hA q => XS.ineg hA hG.1 rfl (hb hG.2.1 hd) rfl q) H
theorem Wlk.lushr {x : Int64} {z : Int32} (hd : decode code pc = .ok (.lushr, 1)) (hp : pc + 1 = pc') (H : Wlk G R Z y code ret w J Q h k n pc' Ls (.long (XT.ushrL x z) :: st)) : Wlk G R Z y code ret w J Q h k n pc Ls (.int z :: .long x :: st) := by
  subst hp
  exact Wlk.plain rfl (fun hG T t hA q => XT.lushr hA hG.1 rfl (hb hG.2.1 hd) rfl q) H
theorem Wlk.i2l {x : Int32} (hd : decode code pc = .ok (.i2l, 1)) (hp : pc + 1 = pc') (H : Wlk G R Z y code ret w J Q h k n pc' Ls (.long x.toInt64 :: st)) : Wlk G R Z y code ret w J Q h k n pc Ls (.int x :: st) := by
  subst hp
  exact Wlk.plain rfl (fun hG T t hA q => XT.i2l hA hG.1 rfl (hb hG.2.1 hd) rfl q) H
theorem Wlk.l2i {x : Int64} (hd : decode code pc = .ok (.l2i, 1)) (hp : pc + 1 = pc') (H : Wlk G R Z y code ret w J Q h k n pc' Ls (.int x.toInt32 :: st)) : Wlk G R Z y code ret w J Q h k n pc Ls (.long x :: st) := by
  subst hp
  exact Wlk.plain rfl (fun hG T t hA q => XT.l2i hA hG.1 rfl (hb hG.2.1 hd) rfl q) H
theorem Wlk.i2c {x : Int32} (hd : decode code pc = .ok (.i2c, 1)) (hp : pc + 1 = pc') (H : Wlk G R Z y code ret w J Q h k n pc' Ls (.int x.toUInt32.toUInt16.toUInt32.toInt32 :: st)) : Wlk G R Z y code ret w J Q h k n pc Ls (.int x :: st) := by
  subst hp
  exact Wlk.plain rfl (fun hG T t hA q => XT.i2c hA hG.1 rfl (hb hG.2.1 hd) rfl q) H
theorem Wlk.i2b {x : Int32} (hd : decode code pc = .ok (.i2b, 1)) (hp : pc + 1 = pc') (H : Wlk G R Z y code ret w J Q h k n pc' Ls (.int x.toInt8.toInt32 :: st)) : Wlk G R Z y code ret w J Q h k n pc Ls (.int x :: st) := by
  subst hp
  exact Wlk.plain rfl (fun hG T t hA q => XT.i2b hA hG.1 rfl (hb hG.2.1 hd) rfl q) H
theorem Wlk.i2s {x : Int32} (hd : decode code pc = .ok (.i2s, 1)) (hp : pc + 1 = pc') (H : Wlk G R Z y code ret w J Q h k n pc' Ls (.int x.toInt16.toInt32 :: st)) : Wlk G R Z y code ret w J Q h k n pc Ls (.int x :: st) := by
  subst hp
  exact Wlk.plain rfl (fun hG T t hA q => XT.i2s hA hG.1 rfl (hb hG.2.1 hd) rfl q) H
theorem Wlk.lcmp {x z : Int64} (hd : decode code pc = .ok (.lcmp, 1)) (hp : pc + 1 = pc') (H : Wlk G R Z y code ret w J Q h k n pc' Ls (.int (lcmpW x z) :: st)) : Wlk G R Z y code ret w J Q h k n pc Ls (.long z :: .long x :: st) := by
  subst hp
  exact Wlk.plain rfl (fun hG T t hA q => XT.lcmp hA hG.1 rfl (hb hG.2.1 hd) rfl q) H
theorem Wlk.dup {x : Value} (hd : decode code pc = .ok (.dup, 1)) (hc : x.category = 1) (hp : pc + 1 = pc') (H : Wlk G R Z y code ret w J Q h k n pc' Ls (x :: x :: st)) : Wlk G R Z y code ret w J Q h k n pc Ls (x :: st) := by
  subst hp
  exact Wlk.plain rfl (fun hG T t hA q => XS.dup hA hG.1 rfl (hb hG.2.1 hd) rfl hc q) H
theorem Wlk.pop {x : Value} (hd : decode code pc = .ok (.pop, 1)) (hc : x.category = 1) (hp : pc + 1 = pc') (H : Wlk G R Z y code ret w J Q h k n pc' Ls st) : Wlk G R Z y code ret w J Q h k n pc Ls (x :: st) := by
  subst hp
  exact Wlk.plain rfl (fun hG T t hA q => XT.pop hA hG.1 rfl (hb hG.2.1 hd) rfl hc q) H
theorem Wlk.dupX1 {x z : Value} (hd : decode code pc = .ok (.dup_x1, 1)) (hc : x.category = 1) (hc' : z.category = 1) (hp : pc + 1 = pc') (H : Wlk G R Z y code ret w J Q h k n pc' Ls (x :: z :: x :: st)) : Wlk G R Z y code ret w J Q h k n pc Ls (x :: z :: st) := by
  subst hp
  exact Wlk.plain rfl (fun hG T t hA q => XT.dupX1 hA hG.1 rfl (hb hG.2.1 hd) rfl hc hc' q) H
theorem Wlk.dup2 {x z : Value} (hd : decode code pc = .ok (.dup2, 1)) (hc : x.category = 1) (hc' : z.category = 1) (hp : pc + 1 = pc') (H : Wlk G R Z y code ret w J Q h k n pc' Ls (x :: z :: x :: z :: st)) : Wlk G R Z y code ret w J Q h k n pc Ls (x :: z :: st) := by
  subst hp
  exact Wlk.plain rfl (fun hG T t hA q => XT.dup2 hA hG.1 rfl (hb hG.2.1 hd) rfl hc hc' q) H
theorem Wlk.istoreN {j : Fin 4} {x : Int32} (hd : decode code pc = .ok (.istore_n j, 1)) (hl : storeLocals Ls j.val (.int x) = some Ls') (hz : Ls'.size = Ls.size) (hp : pc + 1 = pc') (H : Wlk G R Z y code ret w J Q h k n pc' Ls' st) : Wlk G R Z y code ret w J Q h k n pc Ls (.int x :: st) := by
  subst hp
  exact Wlk.plain hz (fun hG T t hA q => XS.istoreN hA hG.1 rfl (hb hG.2.1 hd) rfl hl q) H
theorem Wlk.istore {j : Nat} {x : Int32} (hd : decode code pc = .ok (.istore j, 2)) (hl : storeLocals Ls j (.int x) = some Ls') (hz : Ls'.size = Ls.size) (hp : pc + 2 = pc') (H : Wlk G R Z y code ret w J Q h k n pc' Ls' st) : Wlk G R Z y code ret w J Q h k n pc Ls (.int x :: st) := by
  subst hp
  exact Wlk.plain hz (fun hG T t hA q => XS.istore hA hG.1 rfl (hb hG.2.1 hd) rfl hl q) H
theorem Wlk.astoreN {j : Fin 4} {x : Value} (hd : decode code pc = .ok (.astore_n j, 1)) (hv : x.isRef = true) (hl : storeLocals Ls j.val x = some Ls') (hz : Ls'.size = Ls.size) (hp : pc + 1 = pc') (H : Wlk G R Z y code ret w J Q h k n pc' Ls' st) : Wlk G R Z y code ret w J Q h k n pc Ls (x :: st) := by
  subst hp
  exact Wlk.plain hz (fun hG T t hA q => XS.astoreN hA hG.1 rfl (hb hG.2.1 hd) rfl hv hl q) H
theorem Wlk.astore {j : Nat} {x : Value} (hd : decode code pc = .ok (.astore j, 2)) (hv : x.isRef = true) (hl : storeLocals Ls j x = some Ls') (hz : Ls'.size = Ls.size) (hp : pc + 2 = pc') (H : Wlk G R Z y code ret w J Q h k n pc' Ls' st) : Wlk G R Z y code ret w J Q h k n pc Ls (x :: st) := by
  subst hp
  exact Wlk.plain hz (fun hG T t hA q => XS.astore hA hG.1 rfl (hb hG.2.1 hd) rfl hv hl q) H
theorem Wlk.lstoreN {j : Fin 4} {x : Int64} (hd : decode code pc = .ok (.lstore_n j, 1)) (hl : storeLocals Ls j.val (.long x) = some Ls') (hz : Ls'.size = Ls.size) (hp : pc + 1 = pc') (H : Wlk G R Z y code ret w J Q h k n pc' Ls' st) : Wlk G R Z y code ret w J Q h k n pc Ls (.long x :: st) := by
  subst hp
  exact Wlk.plain hz (fun hG T t hA q => XT.lstoreN hA hG.1 rfl (hb hG.2.1 hd) rfl hl q) H
theorem Wlk.lstore {j : Nat} {x : Int64} (hd : decode code pc = .ok (.lstore j, 2)) (hl : storeLocals Ls j (.long x) = some Ls') (hz : Ls'.size = Ls.size) (hp : pc + 2 = pc') (H : Wlk G R Z y code ret w J Q h k n pc' Ls' st) : Wlk G R Z y code ret w J Q h k n pc Ls (.long x :: st) := by
  subst hp
  exact Wlk.plain hz (fun hG T t hA q => XT.lstore hA hG.1 rfl (hb hG.2.1 hd) rfl hl q) H
theorem Wlk.iinc {j : Nat} {cst : Int} {x v : Int32} (hd : decode code pc = .ok (.iinc j cst, 3)) (hv : Int32.ofInt cst = v) (hl : Ls[j]? = some (.val (.int x))) (hs : storeLocals Ls j (.int (x + v)) = some Ls') (hz : Ls'.size = Ls.size) (hp : pc + 3 = pc') (H : Wlk G R Z y code ret w J Q h k n pc' Ls' st) : Wlk G R Z y code ret w J Q h k n pc Ls st := by
  subst hp
  exact Wlk.plain hz (fun hG T t hA q => XT.iincV hA hG.1 rfl v (hb hG.2.1 hd) hv hl hs q) H
theorem Wlk.goto {o : Int} (hd : decode code pc = .ok (.goto o, 3)) (ho : 0 ≤ (pc : Int) + o) (hp : ((pc : Int) + o).toNat = pc') (H : Wlk G R Z y code ret w J Q h k n pc' Ls st) : Wlk G R Z y code ret w J Q h k n pc Ls st :=
  Wlk.plain rfl (fun hG T t hA q => XS.goto hA hG.1 rfl (pc0 := pc) rfl (hb hG.2.1 hd) ho hp q) H
theorem Wlk.ifT {cd : ClassFile.Cond} {o : Int} {x : Int32} (hd : decode code pc = .ok (.ifCond cd o, 3)) (ho : 0 ≤ (pc : Int) + o) (hp : ((pc : Int) + o).toNat = pc') (c : cT cd x 0) (H : Wlk G R Z y code ret w J Q h k n pc' Ls st) : Wlk G R Z y code ret w J Q h k n pc Ls (.int x :: st) :=
  Wlk.plain rfl (fun hG T t hA q => XS.ifYes hA hG.1 rfl (pc0 := pc) rfl (hb hG.2.1 hd) rfl ((if0 _ _).trans (cT_holds c)) ho hp q) H
theorem Wlk.ifF {cd : ClassFile.Cond} {o : Int} {x : Int32} (hd : decode code pc = .ok (.ifCond cd o, 3)) (c : cF cd x 0) (hp : pc + 3 = pc') (H : Wlk G R Z y code ret w J Q h k n pc' Ls st) : Wlk G R Z y code ret w J Q h k n pc Ls (.int x :: st) := by
  subst hp
  exact Wlk.plain rfl (fun hG T t hA q => XS.ifNo hA hG.1 rfl (hb hG.2.1 hd) rfl ((if0 _ _).trans (cF_holds c)) q) H
theorem Wlk.icT {cd : ClassFile.Cond} {o : Int} {x z : Int32} (hd : decode code pc = .ok (.if_icmp cd o, 3)) (ho : 0 ≤ (pc : Int) + o) (hp : ((pc : Int) + o).toNat = pc') (c : cT cd x z) (H : Wlk G R Z y code ret w J Q h k n pc' Ls st) : Wlk G R Z y code ret w J Q h k n pc Ls (.int z :: .int x :: st) :=
  Wlk.plain rfl (fun hG T t hA q => XS.icmpYes hA hG.1 rfl (pc0 := pc) rfl (hb hG.2.1 hd) rfl (cT_holds c) ho hp q) H
theorem Wlk.icF {cd : ClassFile.Cond} {o : Int} {x z : Int32} (hd : decode code pc = .ok (.if_icmp cd o, 3)) (c : cF cd x z) (hp : pc + 3 = pc') (H : Wlk G R Z y code ret w J Q h k n pc' Ls st) : Wlk G R Z y code ret w J Q h k n pc Ls (.int z :: .int x :: st) := by
  subst hp
  exact Wlk.plain rfl (fun hG T t hA q => XS.icmpNo hA hG.1 rfl (hb hG.2.1 hd) rfl (cF_holds c) q) H
theorem Wlk.if_ {cd : ClassFile.Cond} {o : Int} {x : Int32} {pcT pcF : Nat} (hd : decode code pc = .ok (.ifCond cd o, 3)) (ho : 0 ≤ (pc : Int) + o) (hT : ((pc : Int) + o).toNat = pcT) (hF : pc + 3 = pcF) (H1 : cT cd x 0 → Wlk G R Z y code ret w J Q h k n pcT Ls st) (H2 : cF cd x 0 → Wlk G R Z y code ret w J Q h k n pcF Ls st) : Wlk G R Z y code ret w J Q h k n pc Ls (.int x :: st) :=
  (cTF cd x 0).elim (fun c => Wlk.ifT hd ho hT c (H1 c)) (fun c => Wlk.ifF hd c hF (H2 c))
theorem Wlk.ic_ {cd : ClassFile.Cond} {o : Int} {x z : Int32} {pcT pcF : Nat} (hd : decode code pc = .ok (.if_icmp cd o, 3)) (ho : 0 ≤ (pc : Int) + o) (hT : ((pc : Int) + o).toNat = pcT) (hF : pc + 3 = pcF) (H1 : cT cd x z → Wlk G R Z y code ret w J Q h k n pcT Ls st) (H2 : cF cd x z → Wlk G R Z y code ret w J Q h k n pcF Ls st) : Wlk G R Z y code ret w J Q h k n pc Ls (.int z :: .int x :: st) :=
  (cTF cd x z).elim (fun c => Wlk.icT hd ho hT c (H1 c)) (fun c => Wlk.icF hd c hF (H2 c))
theorem Wlk.ifnullT {o : Int} (hd : decode code pc = .ok (.ifnull o, 3)) (ho : 0 ≤ (pc : Int) + o) (hp : ((pc : Int) + o).toNat = pc') (H : Wlk G R Z y code ret w J Q h k n pc' Ls st) : Wlk G R Z y code ret w J Q h k n pc Ls (.null :: st) :=
  Wlk.plain rfl (fun hG T t hA q => XS.ifnullYes hA hG.1 rfl (pc0 := pc) rfl (hb hG.2.1 hd) rfl ho hp q) H
theorem Wlk.ifnullF {o : Int} {b : Addr} (hd : decode code pc = .ok (.ifnull o, 3)) (hp : pc + 3 = pc') (H : Wlk G R Z y code ret w J Q h k n pc' Ls st) : Wlk G R Z y code ret w J Q h k n pc Ls (.ref b :: st) := by
  subst hp
  exact Wlk.plain rfl (fun hG T t hA q => XS.ifnullNo hA hG.1 rfl (hb hG.2.1 hd) rfl q) H
theorem Wlk.ifnonnullT {o : Int} {b : Addr} (hd : decode code pc = .ok (.ifnonnull o, 3)) (ho : 0 ≤ (pc : Int) + o) (hp : ((pc : Int) + o).toNat = pc') (H : Wlk G R Z y code ret w J Q h k n pc' Ls st) : Wlk G R Z y code ret w J Q h k n pc Ls (.ref b :: st) :=
  Wlk.plain rfl (fun hG T t hA q => XT.ifnonnullYes hA hG.1 rfl (pc0 := pc) rfl (hb hG.2.1 hd) rfl ho hp q) H
theorem Wlk.ifnonnullF {o : Int} (hd : decode code pc = .ok (.ifnonnull o, 3)) (hp : pc + 3 = pc') (H : Wlk G R Z y code ret w J Q h k n pc' Ls st) : Wlk G R Z y code ret w J Q h k n pc Ls (.null :: st) := by
  subst hp
  exact Wlk.plain rfl (fun hG T t hA q => XT.ifnonnullNo hA hG.1 rfl (hb hG.2.1 hd) rfl q) H
theorem Wlk.acmp {cd : ACond} {o : Int} {x z : Value} {same : Bool} (hd : decode code pc = .ok (.if_acmp cd o, 3)) (h1 : x.isRef = true) (h2 : z.isRef = true) (hq : decide (x = z) = same) (ho : 0 ≤ (pc : Int) + o) (hp : pc' = if acV cd same = true then ((pc : Int) + o).toNat else pc + 3) (H : Wlk G R Z y code ret w J Q h k n pc' Ls st) : Wlk G R Z y code ret w J Q h k n pc Ls (z :: x :: st) :=
  Wlk.reads rfl (fun vm0 T L hG hsz X eT hZ hown hE => ⟨T, X, eT, fun t q => Jvm.RoadKit.acmp (g := mkF G.m pc Ls (z :: x :: st)) X hG.1 rfl h1 h2 (pc0 := pc) rfl (hb hG.2.1 hd) rfl hq ho hp q⟩) H
theorem Wlk.ldcI {index : Nat} {v : Int32} (hd : decode code pc = .ok (.ldc index, 2)) (wd : (Cond.constant y.cls index v).before a0 Z = true) (hp : pc + 2 = pc') (H : Wlk G R Z y code ret w J Q h k n pc' Ls (.int v :: st)) : Wlk G R Z y code ret w J Q h k n pc Ls st := by
  subst hp
  exact Wlk.reads rfl (fun vm0 T L hG hsz X eT hZ hown hE => ⟨T, X, eT, fun t q => X.ldcI hG.1 hown (mvT hZ wd) (g := mkF G.m pc Ls st) rfl (hb hG.2.1 hd) q⟩) H
theorem Wlk.ldcWI {index : Nat} {v : Int32} (hd : decode code pc = .ok (.ldc_w index, 3)) (wd : (Cond.constant y.cls index v).before a0 Z = true) (hp : pc + 3 = pc') (H : Wlk G R Z y code ret w J Q h k n pc' Ls (.int v :: st)) : Wlk G R Z y code ret w J Q h k n pc Ls st := by
  subst hp
  exact Wlk.reads rfl (fun vm0 T L hG hsz X eT hZ hown hE => ⟨T, X, eT, fun t q => X.ldcWI hG.1 hown (mvT hZ wd) (g := mkF G.m pc Ls st) rfl (hb hG.2.1 hd) q⟩) H
theorem Wlk.ldc2J {index : Nat} {v : Int64} (hd : decode code pc = .ok (.ldc2_w index, 3)) (wd : (Cond.constantLong y.cls index v).before a0 Z = true) (hp : pc + 3 = pc') (H : Wlk G R Z y code ret w J Q h k n pc' Ls (.long v :: st)) : Wlk G R Z y code ret w J Q h k n pc Ls st := by
  subst hp
  exact Wlk.reads rfl (fun vm0 T L hG hsz X eT hZ hown hE => ⟨T, X, eT, fun t q => X.ldc2J hG.1 hown (mvT hZ wd) (g := mkF G.m pc Ls st) rfl (hb hG.2.1 hd) q⟩) H
theorem Wlk.getF {index : Nat} {R0 O nm d : String} {a : Addr} {v : Value} (hd : decode code pc = .ok (.getfield index, 3)) (wl : (Cond.fieldLink y.cls index R0 nm d).before a0 Z = true) (via : Via Z R0 O nm d) (F : Fld Z h a O nm d v) (hp : pc + 3 = pc') (H : Wlk G R Z y code ret w J Q h k n pc' Ls (v :: st)) : Wlk G R Z y code ret w J Q h k n pc Ls (.ref a :: st) := by
  subst hp
  exact Wlk.reads rfl (fun vm0 T L hG hsz X eT hZ hown hE => Jvm.RoadKit.getF X hG.1 hZ hown (host := "") (Or.inl wl) via eT F (g := mkF G.m pc Ls (.ref a :: st)) rfl rfl (hb hG.2.1 hd)) H
theorem Wlk.getS {index : Nat} {R0 O nm d : String} {v : Value} (hd : decode code pc = .ok (.getstatic index, 3)) (wl : (Cond.fieldLink y.cls index R0 nm d).before a0 Z = true) (via : Via Z R0 O nm d) (F : Sta Z Z.heap O nm d v) (hp : pc + 3 = pc') (H : Wlk G R Z y code ret w J Q h k n pc' Ls (v :: st)) : Wlk G R Z y code ret w J Q h k n pc Ls st := by
  subst hp
  exact Wlk.reads rfl (fun vm0 T L hG hsz X eT hZ hown hE => Jvm.RoadKit.getS (host := "") X hG.1 hZ hown wl via eT (F.ext hE) (g := mkF G.m pc Ls st) rfl (hb hG.2.1 hd)) H
theorem Wlk.castY {index : Nat} {K : String} {a : Addr} (hd : decode code pc = .ok (.checkcast index, 3)) (wl : (Cond.classLink y.cls index K).before a0 Z = true) (F : Ins Z h a K true) (hp : pc + 3 = pc') (H : Wlk G R Z y code ret w J Q h k n pc' Ls (.ref a :: st)) : Wlk G R Z y code ret w J Q h k n pc Ls (.ref a :: st) := by
  subst hp
  exact Wlk.reads rfl (fun vm0 T L hG hsz X eT hZ hown hE => Jvm.RoadKit.castY X hG.1 hZ hown wl eT F (g := mkF G.m pc Ls (.ref a :: st)) rfl rfl (hb hG.2.1 hd)) H
theorem Wlk.castNull {index : Nat} (hd : decode code pc = .ok (.checkcast index, 3)) (hp : pc + 3 = pc') (H : Wlk G R Z y code ret w J Q h k n pc' Ls (.null :: st)) : Wlk G R Z y code ret w J Q h k n pc Ls (.null :: st) := by
  subst hp
  exact Wlk.reads rfl (fun vm0 T L hG hsz X eT hZ hown hE => ⟨T, X, eT, fun t q => X.checkcastNull hG.1 (g := mkF G.m pc Ls (.null :: st)) rfl rfl (hb hG.2.1 hd) t q⟩) H
theorem Wlk.instY {index : Nat} {K : String} {a : Addr} (hd : decode code pc = .ok (.instanceof index, 3)) (wl : (Cond.classLink y.cls index K).before a0 Z = true) (F : Ins Z h a K true) (hp : pc + 3 = pc') (H : Wlk G R Z y code ret w J Q h k n pc' Ls (.int 1 :: st)) : Wlk G R Z y code ret w J Q h k n pc Ls (.ref a :: st) := by
  subst hp
  exact Wlk.reads rfl (fun vm0 T L hG hsz X eT hZ hown hE => Jvm.RoadKit.instY X hG.1 hZ hown wl eT F (g := mkF G.m pc Ls (.ref a :: st)) rfl rfl (hb hG.2.1 hd)) H
theorem Wlk.instNull {index : Nat} (hd : decode code pc = .ok (.instanceof index, 3)) (hp : pc + 3 = pc') (H : Wlk G R Z y code ret w J Q h k n pc' Ls (.int 0 :: st)) : Wlk G R Z y code ret w J Q h k n pc Ls (.null :: st) := by
  subst hp
  exact Wlk.reads rfl (fun vm0 T L hG hsz X eT hZ hown hE => ⟨T, X, eT, fun t q => X.instanceofNull hG.1 (g := mkF G.m pc Ls (.null :: st)) rfl rfl (hb hG.2.1 hd) t q⟩) H
theorem Wlk.initO {index : Nat} {a : Addr} {W : Nat} (hd : decode code pc = .ok (.invokespecial index, 3)) (w1 : (Cond.methodLink y.cls index Lib.objectInit).before a0 Z = true) (w2 : (Cond.instanceMethod Lib.objectInit).before a0 Z = true) (w3 : (Cond.code Lib.objectInit ⟨#[0xb1]⟩ 1 none).before a0 Z = true)
    (hf : 1 ≤ R.frames) (hW : (st.map fun v => v.category).sum = W) (hl : W + 12 ≤ R.locals) (hp : pc + 3 = pc') (H : Wlk G R Z y code ret w J Q h k n pc' Ls st) : Wlk G R Z y code ret w J Q h k n pc Ls (.ref a :: st) := by
  subst hp
  exact Wlk.reads rfl (fun vm0 T L hG hsz X eT hZ hown hE => Jvm.RoadKit.initO X hG.1 hZ hown w1 w2 w3 eT (g := mkF G.m pc Ls (.ref a :: st)) rfl hsz rfl (hb hG.2.1 hd) hf (W := W) (by show 2 * 0 + _ ≤ _; omega) hl) H
theorem Wlk.newO {index sl : Nat} {C : String} (hd : decode code pc = .ok (.new index, 3)) (wl : (Cond.classLink y.cls index C).before a0 Z = true) (wi : (Cond.instantiable C sl).before a0 Z = true) (wz : (Cond.initialized C).before a0 Z = true) (hc : k + 1 ≤ R.cells) (hl : n + sl ≤ R.slots) (hp : pc + 3 = pc')
    (H : ∀ (a : Addr) (h' : Heap), h.size ≤ a → Z.heap.size ≤ a → Ext h h' → Exa Z h' a C → (∀ {O nm d : String} {ty : FieldType}, Laid Z a0 C O nm d → parseFieldDescriptor d = some ty → Fld Z h' a O nm d (defaultValue ty)) → Wlk G R Z y code ret w J Q h' (k + 1) (n + sl) pc' Ls (.ref a :: st)) : Wlk G R Z y code ret w J Q h k n pc Ls st := by
  subst hp
  refine Wlk.moves (P := fun h' => Z.heap.size ≤ h.size ∧ Ext h h' ∧ Exa Z h' h.size C ∧ (∀ {O nm d : String} {ty : FieldType}, Laid Z a0 C O nm d → parseFieldDescriptor d = some ty → Fld Z h' h.size O nm d (defaultValue ty))) (st' := .ref h.size :: st) rfl (fun vm0 T L hG hsz X eT hZ hown hE hF => ?_) (fun h' q => H h.size h' (Nat.le_refl _) q.1 q.2.1 q.2.2.1 q.2.2.2)
  obtain ⟨T', h', X', e', E', A', D', -, s'⟩ := Jvm.RoadKit.newO X hG.1 hZ hown wl wi wz eT (g := mkF G.m pc Ls st) rfl (hb hG.2.1 hd) hc hl
  exact ⟨T', h', L, X', e', E'.1, ⟨Nat.le_trans hE.1 E'.1, fun a c q => E'.2 a c (hE.2 a c q)⟩, hF, ⟨hE.1, E', A', D'⟩, s'⟩
theorem Wlk.newP {aty : ArrayType} {z : Int32} {cap : Nat} {ty : FieldType} (hd : decode code pc = .ok (.newarray aty, 2)) (hty : newarray.typeOf aty = ty) (wl : (Cond.arrayClass ty).before a0 Z = true) (hn : ¬ z < 0) (hcap : z.toNatClampNeg ≤ cap) (hbig : cap * 8 ≤ 536870912) (hc : k + 1 ≤ R.cells) (hl : n + cap ≤ R.slots) (hp : pc + 2 = pc')
    (H : ∀ (a : Addr) (h' : Heap) (kc : ClassId), h.size ≤ a → Z.heap.size ≤ a → Ext h h' → Arv Z h' a kc ty z [] (defaultValue ty) → Wlk G R Z y code ret w J Q h' (k + 1) (n + cap) pc' Ls (.ref a :: st)) : Wlk G R Z y code ret w J Q h k n pc Ls (.int z :: st) := by
  subst hp hty
  refine Wlk.moves (P := fun h' => Z.heap.size ≤ h.size ∧ Ext h h' ∧ ∃ kc, Arv Z h' h.size kc (newarray.typeOf aty) z [] (defaultValue (newarray.typeOf aty))) (st' := .ref h.size :: st) rfl (fun vm0 T L hG hsz X eT hZ hown hE hF => ?_) (fun h' q => q.2.2.elim fun kc A => H h.size h' kc (Nat.le_refl _) q.1 q.2.1 A)
  obtain ⟨T', h', cA, X', e', E', A', s'⟩ := Jvm.RoadKit.newP X hG.1 hZ wl eT (g := mkF G.m pc Ls (.int z :: st)) rfl (hb hG.2.1 hd) rfl hn hcap hbig hc hl
  exact ⟨T', h', L, X', e', E'.1, ⟨Nat.le_trans hE.1 E'.1, fun a c q => E'.2 a c (hE.2 a c q)⟩, hF, ⟨hE.1, E', cA, Arv.new A' hn⟩, s'⟩
theorem Wlk.newR {index : Nat} {C : String} {z : Int32} {cap : Nat} (hd : decode code pc = .ok (.anewarray index, 3)) (wl : (Cond.classLink y.cls index C).before a0 Z = true) (w2 : (Cond.arrayOver (.object C)).before a0 Z = true) (hn : ¬ z < 0) (hcap : z.toNatClampNeg ≤ cap) (hbig : cap * 8 ≤ 536870912) (hc : k + 1 ≤ R.cells) (hl : n + cap ≤ R.slots) (hp : pc + 3 = pc')
    (H : ∀ (a : Addr) (h' : Heap) (kc : ClassId), h.size ≤ a → Z.heap.size ≤ a → Ext h h' → Ovr Z kc C → Arv Z h' a kc (.object C) z [] .null → Wlk G R Z y code ret w J Q h' (k + 1) (n + cap) pc' Ls (.ref a :: st)) : Wlk G R Z y code ret w J Q h k n pc Ls (.int z :: st) := by
  subst hp
  refine Wlk.moves (P := fun h' => Z.heap.size ≤ h.size ∧ Ext h h' ∧ ∃ kc, Ovr Z kc C ∧ Arv Z h' h.size kc (.object C) z [] .null) (st' := .ref h.size :: st) rfl (fun vm0 T L hG hsz X eT hZ hown hE hF => ?_) (fun h' q => q.2.2.elim fun kc A => H h.size h' kc (Nat.le_refl _) q.1 q.2.1 A.1 A.2)
  obtain ⟨T', h', cA, X', e', E', A', O', s'⟩ := Jvm.RoadKit.newR X hG.1 hZ hown wl w2 eT (g := mkF G.m pc Ls (.int z :: st)) rfl (hb hG.2.1 hd) rfl hn hcap hbig hc hl
  exact ⟨T', h', L, X', e', E'.1, ⟨Nat.le_trans hE.1 E'.1, fun a c q => E'.2 a c (hE.2 a c q)⟩, hF, ⟨hE.1, E', cA, O', Arv.new A' hn⟩, s'⟩
theorem ext_wr {a : Addr} {sl : Nat} {v : Value} {h' : Heap} (hE : Ext Z.heap h) (g : Z.heap.size ≤ a) (W : Wr h h' a sl v) : Ext Z.heap h' := (Old.wr (n0 := Z.heap.size) ⟨rfl, hE⟩ W g).2
theorem Wlk.putF {index sl : Nat} {R0 O nm d C : String} {a : Addr} {v old : Value} {ty : FieldType} (hd : decode code pc = .ok (.putfield index, 3)) (wl : (Cond.fieldLink y.cls index R0 nm d).before a0 Z = true) (via : Via Z R0 O nm d) (F : Fld Z h a O nm d old) (E : Exa Z h a C) (LY : (Cond.lays C O nm d).before a0 Z = true ∨ ((Cond.laysFinal C O nm d).before a0 Z = true ∧ y.cls = O ∧ y.name = "<init>")) (wi : (Cond.instantiable C sl).before a0 Z = true)
    (hty : parseFieldDescriptor d = some ty) (hn : narrow ty v = v) (hf : fits ty v = true) (g : Z.heap.size ≤ a) (hp : pc + 3 = pc') (H : ∀ h', Wr h h' a (Jvm.RoadKit.slotOf Z O nm d) v → Wlk G R Z y code ret w J Q h' k n pc' Ls st) : Wlk G R Z y code ret w J Q h k n pc Ls (v :: .ref a :: st) := by
  subst hp
  refine Wlk.moves (P := fun h' => Wr h h' a (Jvm.RoadKit.slotOf Z O nm d) v) rfl (fun vm0 T L hG hsz X eT hZ hown hE hF => ?_) H
  obtain ⟨T', h', X', e', W', s'⟩ := Jvm.RoadKit.putF X hG.1 hZ hown (host := "") (Or.inl wl) via eT F E (LY.imp id fun q => ⟨q.1, q.2.1, hG.2.2.2.2.trans q.2.2⟩) wi hty hn hf (g := mkF G.m pc Ls (v :: .ref a :: st)) rfl rfl (hb hG.2.1 hd)
  exact ⟨T', h', _, X', e', Nat.le_of_eq W'.size.symm, ext_wr hE g W', Fr.snoc X' hF g, W', s'⟩
theorem Wlk.castore {a : Addr} {kc : ClassId} {z j x : Int32} {vs : List Value} {d : Value} {i : Nat} (hd : decode code pc = .ok (.castore, 1)) (A : Arv Z h a kc .char z vs d) (hj : ¬ j < 0 ∧ j < z) (hi : j.toNatClampNeg = i) (hv : i < vs.length) (g : Z.heap.size ≤ a) (hp : pc + 1 = pc')
    (H : ∀ h', Wr h h' a i (.int (nar .char x)) → Arv Z h' a kc .char z (vs.set i (.int (nar .char x))) d → Wlk G R Z y code ret w J Q h' k n pc' Ls st) : Wlk G R Z y code ret w J Q h k n pc Ls (.int x :: .int j :: .ref a :: st) := by
  subst hp hi
  obtain ⟨cl, Ar, q1, S, N, HH, GG⟩ := A
  refine Wlk.moves (P := fun h' => Wr h h' a j.toNatClampNeg (.int (nar .char x))) rfl (fun vm0 T L hG hsz X eT hZ hown hE hF => ?_) (fun h' W => H h' W (Arv.set Ar q1 S N HH GG (fits_nar_char x) W j.toNatClampNeg rfl hv))
  obtain ⟨T', h', X', e', W', s'⟩ := Jvm.RoadKit.stC X hG.1 hZ eT Ar (j := j) (inb_of S hj) (g := mkF G.m pc Ls (.int x :: .int j :: .ref a :: st)) rfl rfl (hb hG.2.1 hd)
  exact ⟨T', h', _, X', e', Nat.le_of_eq W'.size.symm, ext_wr hE g W', Fr.snoc X' hF g, W', s'⟩
theorem Wlk.bastore {a : Addr} {kc : ClassId} {z j x : Int32} {vs : List Value} {d : Value} {i : Nat} (hd : decode code pc = .ok (.bastore, 1)) (A : Arv Z h a kc .byte z vs d) (hj : ¬ j < 0 ∧ j < z) (hi : j.toNatClampNeg = i) (hv : i < vs.length) (g : Z.heap.size ≤ a) (hp : pc + 1 = pc')
    (H : ∀ h', Wr h h' a i (.int (nar .byte x)) → Arv Z h' a kc .byte z (vs.set i (.int (nar .byte x))) d → Wlk G R Z y code ret w J Q h' k n pc' Ls st) : Wlk G R Z y code ret w J Q h k n pc Ls (.int x :: .int j :: .ref a :: st) := by
  subst hp hi
  obtain ⟨cl, Ar, q1, S, N, HH, GG⟩ := A
  refine Wlk.moves (P := fun h' => Wr h h' a j.toNatClampNeg (.int (nar .byte x))) rfl (fun vm0 T L hG hsz X eT hZ hown hE hF => ?_) (fun h' W => H h' W (Arv.set Ar q1 S N HH GG (fits_nar_byte x) W j.toNatClampNeg rfl hv))
  obtain ⟨T', h', X', e', W', s'⟩ := Jvm.RoadKit.stB X hG.1 hZ eT Ar (j := j) (inb_of S hj) (g := mkF G.m pc Ls (.int x :: .int j :: .ref a :: st)) rfl rfl (hb hG.2.1 hd)
  exact ⟨T', h', _, X', e', Nat.le_of_eq W'.size.symm, ext_wr hE g W', Fr.snoc X' hF g, W', s'⟩
theorem Wlk.iastore {a : Addr} {kc : ClassId} {z j x : Int32} {vs : List Value} {d : Value} {i : Nat} (hd : decode code pc = .ok (.iastore, 1)) (A : Arv Z h a kc .int z vs d) (hj : ¬ j < 0 ∧ j < z) (hi : j.toNatClampNeg = i) (hv : i < vs.length) (g : Z.heap.size ≤ a) (hp : pc + 1 = pc')
    (H : ∀ h', Wr h h' a i (.int x) → Arv Z h' a kc .int z (vs.set i (.int x)) d → Wlk G R Z y code ret w J Q h' k n pc' Ls st) : Wlk G R Z y code ret w J Q h k n pc Ls (.int x :: .int j :: .ref a :: st) := by
  subst hp hi
  obtain ⟨cl, Ar, q1, S, N, HH, GG⟩ := A
  refine Wlk.moves (P := fun h' => Wr h h' a j.toNatClampNeg (.int x)) rfl (fun vm0 T L hG hsz X eT hZ hown hE hF => ?_) (fun h' W => H h' W (Arv.set Ar q1 S N HH GG (rfl) W j.toNatClampNeg rfl hv))
  obtain ⟨T', h', X', e', W', s'⟩ := Jvm.RoadKit.stI X hG.1 hZ eT Ar (j := j) (inb_of S hj) (g := mkF G.m pc Ls (.int x :: .int j :: .ref a :: st)) rfl rfl (hb hG.2.1 hd)
  exact ⟨T', h', _, X', e', Nat.le_of_eq W'.size.symm, ext_wr hE g W', Fr.snoc X' hF g, W', s'⟩
theorem Wlk.aastore {a : Addr} {kc : ClassId} {z j : Int32} {v : Value} {vs : List Value} {d : Value} {i : Nat} {ty : FieldType} (hd : decode code pc = .ok (.aastore, 1)) (A : Arv Z h a kc ty z vs d) (hty : ty.isReference = true) (hfv : fits ty v = true) (F : Sto Z h a v) (hj : ¬ j < 0 ∧ j < z) (hi : j.toNatClampNeg = i) (hv : i < vs.length) (g : Z.heap.size ≤ a) (hp : pc + 1 = pc')
    (H : ∀ h', Wr h h' a i v → Arv Z h' a kc ty z (vs.set i v) d → Wlk G R Z y code ret w J Q h' k n pc' Ls st) : Wlk G R Z y code ret w J Q h k n pc Ls (v :: .int j :: .ref a :: st) := by
  subst hp hi
  obtain ⟨cl, Ar, q1, S, N, HH, GG⟩ := A
  refine Wlk.moves (P := fun h' => Wr h h' a j.toNatClampNeg v) rfl (fun vm0 T L hG hsz X eT hZ hown hE hF => ?_) (fun h' W => H h' W (Arv.set Ar q1 S N HH GG hfv W j.toNatClampNeg rfl hv))
  obtain ⟨T', h', X', e', W', s'⟩ := Jvm.RoadKit.stR X hG.1 hZ eT Ar (j := j) (inb_of S hj) hty F (g := mkF G.m pc Ls (v :: .int j :: .ref a :: st)) rfl rfl (hb hG.2.1 hd)
  exact ⟨T', h', _, X', e', Nat.le_of_eq W'.size.symm, ext_wr hE g W', Fr.snoc X' hF g, W', s'⟩
theorem Wlk.caload {a : Addr} {kc : ClassId} {z j : Int32} {vs : List Value} {d v : Value} (hd : decode code pc = .ok (.caload, 1)) (A : Arv Z h a kc .char z vs d) (hj : ¬ j < 0 ∧ j < z) (hv : vs.getD j.toNatClampNeg d = v) (hp : pc + 1 = pc') (H : Wlk G R Z y code ret w J Q h k n pc' Ls (v :: st)) : Wlk G R Z y code ret w J Q h k n pc Ls (.int j :: .ref a :: st) := by
  subst hp
  obtain ⟨cl, Ar, q1, S, N, HH, GG⟩ := A
  have hin := inb_of S hj
  exact Wlk.reads rfl (fun vm0 T L hG hsz X eT hZ hown hE => ⟨T, X, eT, fun t q => X.caload hG.1 (j := j) (v := v) (by rw [eT]; exact Ar.1) (State.isArrayOf_alike hZ.alike Ar.2.1) Ar.2.2 hin (Has.at HH hin hv) (g := mkF G.m pc Ls (.int j :: .ref a :: st)) rfl rfl (hb hG.2.1 hd) t q⟩) H
theorem Wlk.baload {a : Addr} {kc : ClassId} {z j : Int32} {vs : List Value} {d v : Value} (hd : decode code pc = .ok (.baload, 1)) (A : Arv Z h a kc .byte z vs d) (hj : ¬ j < 0 ∧ j < z) (hv : vs.getD j.toNatClampNeg d = v) (hp : pc + 1 = pc') (H : Wlk G R Z y code ret w J Q h k n pc' Ls (v :: st)) : Wlk G R Z y code ret w J Q h k n pc Ls (.int j :: .ref a :: st) := by
  subst hp
  obtain ⟨cl, Ar, q1, S, N, HH, GG⟩ := A
  have hin := inb_of S hj
  exact Wlk.reads rfl (fun vm0 T L hG hsz X eT hZ hown hE => ⟨T, X, eT, fun t q => X.baloadBytes hG.1 (j := j) (v := v) (by rw [eT]; exact Ar.1) (State.isArrayOf_alike hZ.alike Ar.2.1) Ar.2.2 hin (Has.at HH hin hv) (g := mkF G.m pc Ls (.int j :: .ref a :: st)) rfl rfl (hb hG.2.1 hd) t q⟩) H
theorem Wlk.iaload {a : Addr} {kc : ClassId} {z j : Int32} {vs : List Value} {d v : Value} (hd : decode code pc = .ok (.iaload, 1)) (A : Arv Z h a kc .int z vs d) (hj : ¬ j < 0 ∧ j < z) (hv : vs.getD j.toNatClampNeg d = v) (hp : pc + 1 = pc') (H : Wlk G R Z y code ret w J Q h k n pc' Ls (v :: st)) : Wlk G R Z y code ret w J Q h k n pc Ls (.int j :: .ref a :: st) := by
  subst hp
  obtain ⟨cl, Ar, q1, S, N, HH, GG⟩ := A
  have hin := inb_of S hj
  exact Wlk.reads rfl (fun vm0 T L hG hsz X eT hZ hown hE => ⟨T, X, eT, fun t q => X.iaload hG.1 (j := j) (v := v) (by rw [eT]; exact Ar.1) (State.isArrayOf_alike hZ.alike Ar.2.1) Ar.2.2 hin (Has.at HH hin hv) (g := mkF G.m pc Ls (.int j :: .ref a :: st)) rfl rfl (hb hG.2.1 hd) t q⟩) H
theorem Wlk.aaload {a : Addr} {kc : ClassId} {z j : Int32} {vs : List Value} {d v : Value} {ty : FieldType} (hd : decode code pc = .ok (.aaload, 1)) (A : Arv Z h a kc ty z vs d) (hty : ty.isReference = true) (hj : ¬ j < 0 ∧ j < z) (hv : vs.getD j.toNatClampNeg d = v) (hp : pc + 1 = pc') (H : Wlk G R Z y code ret w J Q h k n pc' Ls (v :: st)) : Wlk G R Z y code ret w J Q h k n pc Ls (.int j :: .ref a :: st) := by
  subst hp
  obtain ⟨cl, Ar, q1, S, N, HH, GG⟩ := A
  have hin := inb_of S hj
  exact Wlk.reads rfl (fun vm0 T L hG hsz X eT hZ hown hE => ⟨T, X, eT, fun t q => X.aaload hG.1 (j := j) (v := v) (by rw [eT]; exact Ar.1) (State.isArrayOf_alike hZ.alike Ar.2.1) hty Ar.2.2 hin (Has.at HH hin hv) (g := mkF G.m pc Ls (.int j :: .ref a :: st)) rfl rfl (hb hG.2.1 hd) t q⟩) H
theorem Wlk.arraylength {a : Addr} {kc : ClassId} {z : Int32} {vs : List Value} {d : Value} {ty : FieldType} (hd : decode code pc = .ok (.arraylength, 1)) (A : Arv Z h a kc ty z vs d) (hp : pc + 1 = pc') (H : Wlk G R Z y code ret w J Q h k n pc' Ls (.int z :: st)) : Wlk G R Z y code ret w J Q h k n pc Ls (.ref a :: st) := by
  subst hp
  obtain ⟨cl, Ar, q1, S, N, HH, GG⟩ := A
  exact Wlk.reads rfl (fun vm0 T L hG hsz X eT hZ hown hE => ⟨T, X, eT, fun t q => X.arraylength hG.1 (by rw [eT]; exact Ar.1) (State.isArrayOf_alike hZ.alike Ar.2.1) (g := mkF G.m pc Ls (.ref a :: st)) rfl rfl (hb hG.2.1 hd) t (by rw [len_of S N]; exact q)⟩) H
/-! ## the ends -/
theorem Wlk.leaves {v : Option Value} (hv : ret = none → v = none) (hstep : ∀ (vm0 : Vm) (T : State) (L : List Loc) (fs : List Frame), Cok G y code ret → Stand G.p G.l G.e R (G.s.setVm vm0) G.m G.args G.below G.meth G.c T L k n → (∀ (f : JFrame) (acts : List Action), f.method = G.m → f.locked = none → f.entered = [] → (doReturn G.e (T.setTop f) acts v).1 = T.setFrames fs) → Steps G.p.tables G.e G.below (T.setTop (mkF G.m pc Ls st)) (T.setFrames fs))
    (hc : k ≤ R.cells) (hs : n ≤ R.slots) (hq : Q v h J) : Wlk G R Z y code ret w J Q h k n pc Ls st := by
  intro hG hsz T L hP
  obtain ⟨vm0, k0, X, eT, hS, hk, hZ, hown, hw, hB, hE, hF⟩ := hP
  obtain ⟨fs, hr, hrun, hended, hend⟩ := (X.more hc hs).leaveW hS (by rw [eT]; exact hk) (v := v) (fun q => hv (hG.2.2.1.symm.trans q)) hG.2.2.2.1
  have eh : (T.setFrames fs).heap = h := eT
  refine ⟨_, _, hstep vm0 T L fs hG X hr, hrun, hended, v, L, J, rfl, ⟨by rw [eh]; exact hq, hF, by rw [eh]; exact hE, fun q => Books.warm (s := G.s) (hB q) X.warmed⟩, hend, fun q => ?_⟩
  have q' := hw q
  subst q'
  exact X.warmed
theorem Wlk.ireturnN {z : Int32} {t : FieldType} (hd : decode code pc = .ok (.ireturn, 1)) (hret : ret = some t) (ht : t = .boolean ∨ t = .byte ∨ t = .char ∨ t = .short) (hc : k ≤ R.cells) (hs : n ≤ R.slots) (hq : Q (some (.int (nar t z))) h J) : Wlk G R Z y code ret w J Q h k n pc Ls (.int z :: st) :=
  Wlk.leaves (fun q => by rw [hret] at q; cases q) (fun vm0 T L fs hG X hr => retN X hG.1 (hG.2.2.1.trans hret) ht (hb hG.2.1 hd) hr) hc hs hq
theorem Wlk.ireturnI {z : Int32} (hd : decode code pc = .ok (.ireturn, 1)) (hret : ret = some .int) (hc : k ≤ R.cells) (hs : n ≤ R.slots) (hq : Q (some (.int z)) h J) : Wlk G R Z y code ret w J Q h k n pc Ls (.int z :: st) :=
  Wlk.leaves (fun q => by rw [hret] at q; cases q) (fun vm0 T L fs hG X hr => retOut X hG.1 (hG.2.2.1.trans hret) rfl (Or.inl ⟨rfl, Or.inl rfl, z, rfl⟩) (hb hG.2.1 hd) hr) hc hs hq
theorem Wlk.areturn {v : Value} {t : FieldType} (hd : decode code pc = .ok (.areturn, 1)) (hret : ret = some t) (ht : t.isReference = true) (hv : v.isRef = true) (hn : narrow t v = v) (hc : k ≤ R.cells) (hs : n ≤ R.slots) (hq : Q (some v) h J) : Wlk G R Z y code ret w J Q h k n pc Ls (v :: st) :=
  Wlk.leaves (fun q => by rw [hret] at q; cases q) (fun vm0 T L fs hG X hr => retOut X hG.1 (hG.2.2.1.trans hret) hn (Or.inr (Or.inr (Or.inr (Or.inr ⟨rfl, ht, hv⟩)))) (hb hG.2.1 hd) hr) hc hs hq
theorem Wlk.return_ (hd : decode code pc = .ok (.return_, 1)) (hret : ret = none) (hc : k ≤ R.cells) (hs : n ≤ R.slots) (hq : Q none h J) : Wlk G R Z y code ret w J Q h k n pc Ls [] :=
  Wlk.leaves (fun _ => rfl) (fun vm0 T L fs hG X hr => X.returnOut hG.1 (hG.2.2.1.trans hret) (hb hG.2.1 hd) hr) hc hs hq
/-! ## calls -/
theorem Met.narrow {l : Launch} {y : MethodName} {zc : ByteArray} {zm : Nat} {zr : Option FieldType} {rm : Room} {as' : Array Value} {J0 : JJ} {Q' : Option Value → Heap → JJ → Prop} (M : Met l Z y zc zm zr false [] rm as' h J0 Q') (hE : Ext Z.heap h) :
    MetFree l y (head1 [Jvm.Cond.code y zc zm zr] rm) (fun a U => a = as' ∧ Z.Warmed39 U.vm ∧ U.heap = h) (fun _ _ _ _ _ => True) (fun _ U o U' => ∃ v L, o = .returned v ∧ ((∃ J', Q' v U'.heap J') ∧ Fr Z.heap.size L ∧ Ext Z.heap U'.heap ∧ h.size ≤ U'.heap.size) ∧ FrameEnd U o U' L rm.cells rm.slots) := by
  intro p e ha hc hk s m args below hf happ hP hK
  obtain ⟨n, o, h1, h2, h3, v, L, J', h4, ⟨h5, h6, h7, -⟩, h8, h9⟩ := M p e ha hc hk s m args below hf happ ⟨hP.1, hP.2.1, hP.2.2, hE, nofun⟩ hK
  exact ⟨n, o, h1, h2, h3, v, L, h4, ⟨⟨J', h5⟩, h6, h7, by have q := h8.2.2.2.2.1; rw [← hP.2.2]; exact q⟩, ⟨v, h4⟩, h9 rfl, h8.2.2.2⟩
theorem Met.wideBack {l : Launch} {p : Program} {e : Env} {s : State} {args : Array Value} {below : List Frame} {y : MethodName} {zc : ByteArray} {zm : Nat} {zr : Option FieldType} {rm : Room} {as' : Array Value} {J : JJ} {len W : Nat} {Q' : Option Value → Heap → JJ → Prop} (M : Met l Z y zc zm zr true [] rm as' h J Q') (hZ : Z.Warmed39 s.vm) (hE : Ext Z.heap h) (hB : Books Z s.vm J) (wc : (Cond.code y zc zm zr).before a0 Z = true) (wz : (Cond.initialized y.cls).before a0 Z = true) (hf : rm.frames + 1 ≤ R.frames) (hl : W + (zm + 11) + rm.locals ≤ R.locals) :
    BackS l R p e below s args y len W (fun A a => a = as' ∧ A.U.heap = h ∧ A.cells + rm.cells ≤ R.cells ∧ A.slots + rm.slots ≤ R.slots) (fun A _ v B => ∃ L, (∃ J', (Q' v B.U.heap J' ∧ Books Z B.U.vm J') ∧ Fr Z.heap.size L ∧ Ext Z.heap B.U.heap) ∧ B.locs = A.locs ++ L ∧ B.cells = A.cells + rm.cells ∧ B.slots = A.slots + rm.slots) :=
  BackS.of_freeW (bytes := zc) (maxL := zm) (ret := zr) (E := fun _ _ o t L k n => k = rm.cells ∧ n = rm.slots ∧ ∃ v J', o = .returned v ∧ (Q' v t.heap J' ∧ Books Z t.vm J') ∧ Fr Z.heap.size L ∧ Ext Z.heap t.heap) M hf hl
    (fun m meth c A a Y hp => have hU : Z.Warmed39 A.U.vm := wtrans hZ Y.warmed
      ⟨by show (Cond.and _ .tt).before a A.U = true; rw [Cond.before_and, mv hU wc]; rfl, mv hU wc, mv hU wz, hp.2.2.1, hp.2.2.2⟩)
    (fun m meth c A a g mk Y hp => ⟨hp.1, wtrans hZ Y.warmed, hp.2.1, hE, fun _ => Books.warm (s := s) (vm0 := s.vm) hB Y.warmed⟩) (fun _ _ _ _ _ _ _ _ _ => trivial)
    (fun _ _ _ _ ⟨v, L, J', h1, ⟨h2, h3, h4, h5⟩, h6⟩ => ⟨L, _, _, h6.1, rfl, rfl, v, J', h1, ⟨h2, h5 rfl⟩, h3, h4⟩)
    (fun m meth c A a g mk v t L k n Y hp _ _ ⟨e1, e2, v', J', e3, e4⟩ => by cases e3; subst e1 e2; exact ⟨L, ⟨J', e4⟩, rfl, rfl, rfl⟩)
theorem Wlk.callS {z : MethodName} {index : Nat} {zc : ByteArray} {zm : Nat} {rm : Room} {argsL : List Value} {stk : List Value} {W : Nat} {ps : List FieldType} {r : Option FieldType} {Q' : Option Value → Heap → JJ → Prop} {zr : Option FieldType} {J0 : JJ} (hd : decode code pc = .ok (.invokestatic index, 3)) (wl : (Cond.methodLink y.cls index z).before a0 Z = true) (ws : (Cond.static z).before a0 Z = true) (wz : (Cond.initialized z.cls).before a0 Z = true) (wc : (Cond.code z zc zm zr).before a0 Z = true) (hy : z.cls ≠ "java/lang/invoke/MethodHandle" ∧ z.cls ≠ "java/lang/invoke/VarHandle")
    (pd : parseMethodDescriptor z.desc = some ⟨ps, r⟩) (hlen : argsL.length = ps.length) (M : Met G.l Z z zc zm zr false [] rm argsL.toArray h J0 Q') (hf : rm.frames + 1 ≤ R.frames) (hW : (st.map fun v => v.category).sum = W) (hl : W + (zm + 11) + rm.locals ≤ R.locals) (hc : k + rm.cells ≤ R.cells) (hs : n + rm.slots ≤ R.slots) (hst : stk = argsL.reverse ++ st) (hp : pc + 3 = pc')
    (H : ∀ v h' J', Q' v h' J' → Wlk G R Z y code ret w J Q h' (k + rm.cells) (n + rm.slots) pc' Ls (v.toList ++ st)) : Wlk G R Z y code ret w J Q h k n pc Ls stk := by
  subst hp hst
  intro hG hsz T L hP
  obtain ⟨vm0, k0, X, eT, hS, hk, hZ, hown, hw, hB, hE, hF⟩ := hP
  have hZ' : Z.Warmed39 (G.s.setVm vm0).vm := hZ
  obtain ⟨v, vm₁, ⟨T', L', k', n'⟩, -, X', ⟨Lc, hQ, l1, y1, z1⟩, s'⟩ := Jvm.LawKit.callS X hG.1 (y := z) hown (mvT hZ' wl) (mvT hZ' ws) (mvT hZ' wz) (mvT hZ' wc) hy (backOf (W := W) (len := 3) (Q := fun v h' L => (∃ J', Q' v h' J') ∧ Fr Z.heap.size L ∧ Ext Z.heap h' ∧ h.size ≤ h'.size) (M.narrow hE) hZ' wc wz hf hl) (g := mkF G.m pc Ls (argsL.reverse ++ st)) rfl hsz (argsL := argsL) (rest := st) (lenOf pd hlen) rfl (by show 2 * 0 + _ ≤ _; omega) (hb hG.2.1 hd) (fun _ _ => ⟨rfl, eT, hc, hs⟩)
  dsimp only [Pt.U, Pt.locs, Pt.cells, Pt.slots] at X' l1 y1 z1 s' hQ
  subst l1 y1 z1
  obtain ⟨⟨J', hQ⟩, hFc, hEc, hgr⟩ := hQ
  obtain ⟨s₂, o, hs2, rr⟩ := H v T'.heap J' hQ hG hsz T' _ ⟨vm0, k0, X', rfl, hS, Nat.le_trans hk hgr, hZ, hown, hw, hB, hEc, Fr.app hF hFc⟩
  exact ⟨s₂, o, s' _ hs2, rr⟩
theorem Wlk.callSw {z : MethodName} {index : Nat} {zc : ByteArray} {zm : Nat} {rm : Room} {argsL : List Value} {stk : List Value} {W : Nat} {ps : List FieldType} {r : Option FieldType} {Q' : Option Value → Heap → JJ → Prop} {zr : Option FieldType} (hd : decode code pc = .ok (.invokestatic index, 3)) (wl : (Cond.methodLink y.cls index z).before a0 Z = true) (ws : (Cond.static z).before a0 Z = true) (wz : (Cond.initialized z.cls).before a0 Z = true) (wc : (Cond.code z zc zm zr).before a0 Z = true) (hy : z.cls ≠ "java/lang/invoke/MethodHandle" ∧ z.cls ≠ "java/lang/invoke/VarHandle")
    (pd : parseMethodDescriptor z.desc = some ⟨ps, r⟩) (hlen : argsL.length = ps.length) (M : Met G.l Z z zc zm zr true [] rm argsL.toArray h J Q') (hf : rm.frames + 1 ≤ R.frames) (hW : (st.map fun v => v.category).sum = W) (hl : W + (zm + 11) + rm.locals ≤ R.locals) (hc : k + rm.cells ≤ R.cells) (hs : n + rm.slots ≤ R.slots) (hst : stk = argsL.reverse ++ st) (hp : pc + 3 = pc')
    (H : ∀ v h' J', Q' v h' J' → Wlk G R Z y code ret true J' Q h' (k + rm.cells) (n + rm.slots) pc' Ls (v.toList ++ st)) : Wlk G R Z y code ret true J Q h k n pc Ls stk := by
  subst hp hst
  intro hG hsz T L hP
  obtain ⟨vm0, k0, X, eT, hS, hk, hZ, hown, hw, hB, hE, hF⟩ := hP
  have hZ' : Z.Warmed39 (G.s.setVm vm0).vm := hZ
  obtain ⟨v, vm₁, ⟨T', L', k', n'⟩, -, X', hS', hgr, ⟨Lc, hQ, l1, y1, z1⟩, s'⟩ := callSS X hG.1 (y := z) hown (mvT hZ' wl) (mvT hZ' ws) (mvT hZ' wz) (mvT hZ' wc) hy (Met.wideBack (W := W) (len := 3) M hZ' hE (hB rfl) wc wz hf hl) (g := mkF G.m pc Ls (argsL.reverse ++ st)) rfl hsz (argsL := argsL) (rest := st) (lenOf pd hlen) rfl (by show 2 * 0 + _ ≤ _; omega) (hb hG.2.1 hd) (fun _ _ => ⟨rfl, eT, hc, hs⟩)
  dsimp only [Pt.U, Pt.locs, Pt.cells, Pt.slots] at X' l1 y1 z1 s' hQ hS' hgr
  subst l1 y1 z1
  obtain ⟨J', ⟨hQ, hBc⟩, hFc, hEc⟩ := hQ
  obtain ⟨X2, hS2, hZ2, hown2⟩ := rebS (k0 := k0) (n1 := T.heap.size) hS (by rw [eT]; exact hk) X' hS' hgr hZ' hown
  obtain ⟨s₂, o, hs2, rr⟩ := H v T'.heap J' hQ hG hsz T' _ ⟨T'.vm, T'.heap.size, X2, rfl, hS2, Nat.le_refl _, hZ2, hown2, nofun, fun _ => hBc, hEc, Fr.app hF hFc⟩
  exact ⟨s₂, o, s'.trans hs2, rr⟩
theorem Wlk.callC {z : MethodName} {index : Nat} {zc : ByteArray} {zm : Nat} {rm : Room} {argsL : List Value} {stk : List Value} {W : Nat} {ps : List FieldType} {r : Option FieldType} {Q' : Option Value → Heap → JJ → Prop} {a : Addr} {J0 : JJ} (hd : decode code pc = .ok (.invokespecial index, 3)) (wl : (Cond.methodLink y.cls index z).before a0 Z = true) (wi : (Cond.instanceMethod z).before a0 Z = true) (wz : (Cond.initialized z.cls).before a0 Z = true) (wc : (Cond.code z zc zm none).before a0 Z = true) (hy : z.cls ≠ "java/lang/invoke/MethodHandle" ∧ z.cls ≠ "java/lang/invoke/VarHandle") (hin : z.name = "<init>")
    (pd : parseMethodDescriptor z.desc = some ⟨ps, r⟩) (hlen : argsL.length = ps.length) (M : Met G.l Z z zc zm none false [] rm (.ref a :: argsL).toArray h J0 Q') (hf : rm.frames + 1 ≤ R.frames) (hW : (st.map fun v => v.category).sum = W) (hl : W + (zm + 11) + rm.locals ≤ R.locals) (hc : k + rm.cells ≤ R.cells) (hs : n + rm.slots ≤ R.slots) (hst : stk = argsL.reverse ++ .ref a :: st) (hp : pc + 3 = pc')
    (H : ∀ v h' J', Q' v h' J' → Wlk G R Z y code ret w J Q h' (k + rm.cells) (n + rm.slots) pc' Ls (v.toList ++ st)) : Wlk G R Z y code ret w J Q h k n pc Ls stk := by
  subst hp hst
  intro hG hsz T L hP
  obtain ⟨vm0, k0, X, eT, hS, hk, hZ, hown, hw, hB, hE, hF⟩ := hP
  have hZ' : Z.Warmed39 (G.s.setVm vm0).vm := hZ
  obtain ⟨v, vm₁, ⟨T', L', k', n'⟩, -, X', ⟨Lc, hQ, l1, y1, z1⟩, s'⟩ := X.specialBack hG.1 (y := z) hin hown (mvT hZ' wl) (mvT hZ' wi) (mvT hZ' wc) hy (backOf (W := W) (len := 3) (Q := fun v h' L => (∃ J', Q' v h' J') ∧ Fr Z.heap.size L ∧ Ext Z.heap h' ∧ h.size ≤ h'.size) (M.narrow hE) hZ' wc wz hf hl) (g := mkF G.m pc Ls (argsL.reverse ++ .ref a :: st)) rfl hsz (Steps.refl _) (a := a) (argsL := argsL) (rest := st) (lenOf pd hlen) rfl (by show 2 * 0 + _ ≤ _; omega) (hb hG.2.1 hd) (fun _ _ => ⟨rfl, eT, hc, hs⟩)
  dsimp only [Pt.U, Pt.locs, Pt.cells, Pt.slots] at X' l1 y1 z1 s' hQ
  subst l1 y1 z1
  obtain ⟨⟨J', hQ⟩, hFc, hEc, hgr⟩ := hQ
  obtain ⟨s₂, o, hs2, rr⟩ := H v T'.heap J' hQ hG hsz T' _ ⟨vm0, k0, X', rfl, hS, Nat.le_trans hk hgr, hZ, hown, hw, hB, hEc, Fr.app hF hFc⟩
  exact ⟨s₂, o, s'.trans hs2, rr⟩
theorem Wlk.callCw {z : MethodName} {index : Nat} {zc : ByteArray} {zm : Nat} {rm : Room} {argsL : List Value} {stk : List Value} {W : Nat} {ps : List FieldType} {r : Option FieldType} {Q' : Option Value → Heap → JJ → Prop} {a : Addr} (hd : decode code pc = .ok (.invokespecial index, 3)) (wl : (Cond.methodLink y.cls index z).before a0 Z = true) (wi : (Cond.instanceMethod z).before a0 Z = true) (wz : (Cond.initialized z.cls).before a0 Z = true) (wc : (Cond.code z zc zm none).before a0 Z = true) (hy : z.cls ≠ "java/lang/invoke/MethodHandle" ∧ z.cls ≠ "java/lang/invoke/VarHandle") (hin : z.name = "<init>")
    (pd : parseMethodDescriptor z.desc = some ⟨ps, r⟩) (hlen : argsL.length = ps.length) (M : Met G.l Z z zc zm none true [] rm (.ref a :: argsL).toArray h J Q') (hf : rm.frames + 1 ≤ R.frames) (hW : (st.map fun v => v.category).sum = W) (hl : W + (zm + 11) + rm.locals ≤ R.locals) (hc : k + rm.cells ≤ R.cells) (hs : n + rm.slots ≤ R.slots) (hst : stk = argsL.reverse ++ .ref a :: st) (hp : pc + 3 = pc')
    (H : ∀ v h' J', Q' v h' J' → Wlk G R Z y code ret true J' Q h' (k + rm.cells) (n + rm.slots) pc' Ls (v.toList ++ st)) : Wlk G R Z y code ret true J Q h k n pc Ls stk := by
  subst hp hst
  intro hG hsz T L hP
  obtain ⟨vm0, k0, X, eT, hS, hk, hZ, hown, hw, hB, hE, hF⟩ := hP
  have hZ' : Z.Warmed39 (G.s.setVm vm0).vm := hZ
  obtain ⟨v, vm₁, ⟨T', L', k', n'⟩, -, X', hS', hgr, ⟨Lc, hQ, l1, y1, z1⟩, s'⟩ := X.specialBackS hG.1 (y := z) hin hown (mvT hZ' wl) (mvT hZ' wi) (mvT hZ' wc) hy (Met.wideBack (W := W) (len := 3) M hZ' hE (hB rfl) wc wz hf hl) (g := mkF G.m pc Ls (argsL.reverse ++ .ref a :: st)) rfl hsz (Steps.refl _) (a := a) (argsL := argsL) (rest := st) (lenOf pd hlen) rfl (by show 2 * 0 + _ ≤ _; omega) (hb hG.2.1 hd) (fun _ _ => ⟨rfl, eT, hc, hs⟩)
  dsimp only [Pt.U, Pt.locs, Pt.cells, Pt.slots] at X' l1 y1 z1 s' hQ hS' hgr
  subst l1 y1 z1
  obtain ⟨J', ⟨hQ, hBc⟩, hFc, hEc⟩ := hQ
  obtain ⟨X2, hS2, hZ2, hown2⟩ := rebS (k0 := k0) (n1 := T.heap.size) hS (by rw [eT]; exact hk) X' hS' hgr hZ' hown
  obtain ⟨s₂, o, hs2, rr⟩ := H v T'.heap J' hQ hG hsz T' _ ⟨T'.vm, T'.heap.size, X2, rfl, hS2, Nat.le_refl _, hZ2, hown2, nofun, fun _ => hBc, hEc, Fr.app hF hFc⟩
  exact ⟨s₂, o, s'.trans hs2, rr⟩
theorem Wlk.callV {z : MethodName} {index : Nat} {zc : ByteArray} {zm : Nat} {rm : Room} {argsL : List Value} {stk : List Value} {W : Nat} {ps : List FieldType} {r : Option FieldType} {Q' : Option Value → Heap → JJ → Prop} {zr : Option FieldType} {a : Addr} {x : MethodName} {C : String} {J0 : JJ} (hd : decode code pc = .ok (.invokevirtual index, 3)) (wl : (Cond.methodLink y.cls index x).before a0 Z = true) (wd : (Cond.declares x).before a0 Z = true) (wn : ∀ s : State, Z.Warmed39 s.vm → NotFace s x) (wsel : (Cond.selects C x z).before a0 Z = true) (wi : (Cond.instanceMethod z).before a0 Z = true) (E : Exa Z h a C) (wz : (Cond.initialized z.cls).before a0 Z = true) (wc : (Cond.code z zc zm zr).before a0 Z = true) (hy : x.cls ≠ "java/lang/invoke/MethodHandle" ∧ x.cls ≠ "java/lang/invoke/VarHandle")
    (pd : parseMethodDescriptor x.desc = some ⟨ps, r⟩) (hlen : argsL.length = ps.length) (M : Met G.l Z z zc zm zr false [] rm (.ref a :: argsL).toArray h J0 Q') (hf : rm.frames + 1 ≤ R.frames) (hW : (st.map fun v => v.category).sum = W) (hl : W + (zm + 11) + rm.locals ≤ R.locals) (hc : k + rm.cells ≤ R.cells) (hs : n + rm.slots ≤ R.slots) (hst : stk = argsL.reverse ++ .ref a :: st) (hp : pc + 3 = pc')
    (H : ∀ v h' J', Q' v h' J' → Wlk G R Z y code ret w J Q h' (k + rm.cells) (n + rm.slots) pc' Ls (v.toList ++ st)) : Wlk G R Z y code ret w J Q h k n pc Ls stk := by
  subst hp hst
  intro hG hsz T L hP
  obtain ⟨vm0, k0, X, eT, hS, hk, hZ, hown, hw, hB, hE, hF⟩ := hP
  have hZ' : Z.Warmed39 (G.s.setVm vm0).vm := hZ
  obtain ⟨cq, kq, qa, qb, qc⟩ := isOf hZ' eT E
  obtain ⟨v, vm₁, ⟨T', L', k', n'⟩, -, X', ⟨Lc, hQ, l1, y1, z1⟩, s'⟩ := X.virtualBack hG.1 (y := x) (z := z) hown (mvT hZ' wl) (mvT hZ' wd) (wn _ hZ') (mvT hZ' wsel) (mvT hZ' wi) hy (backOf (W := W) (len := 3) (Q := fun v h' L => (∃ J', Q' v h' J') ∧ Fr Z.heap.size L ∧ Ext Z.heap h' ∧ h.size ≤ h'.size) (M.narrow hE) hZ' wc wz hf hl) qa qc (g := mkF G.m pc Ls (argsL.reverse ++ .ref a :: st)) rfl hsz (Steps.refl _) (argsL := argsL) (rest := st) (lenOf pd hlen) rfl (by show 2 * 0 + _ ≤ _; omega) (hb hG.2.1 hd) (fun _ _ => ⟨rfl, eT, hc, hs⟩)
  dsimp only [Pt.U, Pt.locs, Pt.cells, Pt.slots] at X' l1 y1 z1 s' hQ
  subst l1 y1 z1
  obtain ⟨⟨J', hQ⟩, hFc, hEc, hgr⟩ := hQ
  obtain ⟨s₂, o, hs2, rr⟩ := H v T'.heap J' hQ hG hsz T' _ ⟨vm0, k0, X', rfl, hS, Nat.le_trans hk hgr, hZ, hown, hw, hB, hEc, Fr.app hF hFc⟩
  exact ⟨s₂, o, s'.trans hs2, rr⟩
theorem Wlk.callVw {z : MethodName} {index : Nat} {zc : ByteArray} {zm : Nat} {rm : Room} {argsL : List Value} {stk : List Value} {W : Nat} {ps : List FieldType} {r : Option FieldType} {Q' : Option Value → Heap → JJ → Prop} {zr : Option FieldType} {a : Addr} {x : MethodName} {C : String} (hd : decode code pc = .ok (.invokevirtual index, 3)) (wl : (Cond.methodLink y.cls index x).before a0 Z = true) (wd : (Cond.declares x).before a0 Z = true) (wn : ∀ s : State, Z.Warmed39 s.vm → NotFace s x) (wsel : (Cond.selects C x z).before a0 Z = true) (wi : (Cond.instanceMethod z).before a0 Z = true) (E : Exa Z h a C) (wz : (Cond.initialized z.cls).before a0 Z = true) (wc : (Cond.code z zc zm zr).before a0 Z = true) (hy : x.cls ≠ "java/lang/invoke/MethodHandle" ∧ x.cls ≠ "java/lang/invoke/VarHandle")
    (pd : parseMethodDescriptor x.desc = some ⟨ps, r⟩) (hlen : argsL.length = ps.length) (M : Met G.l Z z zc zm zr true [] rm (.ref a :: argsL).toArray h J Q') (hf : rm.frames + 1 ≤ R.frames) (hW : (st.map fun v => v.category).sum = W) (hl : W + (zm + 11) + rm.locals ≤ R.locals) (hc : k + rm.cells ≤ R.cells) (hs : n + rm.slots ≤ R.slots) (hst : stk = argsL.reverse ++ .ref a :: st) (hp : pc + 3 = pc')
    (H : ∀ v h' J', Q' v h' J' → Wlk G R Z y code ret true J' Q h' (k + rm.cells) (n + rm.slots) pc' Ls (v.toList ++ st)) : Wlk G R Z y code ret true J Q h k n pc Ls stk := by
  subst hp hst
  intro hG hsz T L hP
  obtain ⟨vm0, k0, X, eT, hS, hk, hZ, hown, hw, hB, hE, hF⟩ := hP
  have hZ' : Z.Warmed39 (G.s.setVm vm0).vm := hZ
  obtain ⟨cq, kq, qa, qb, qc⟩ := isOf hZ' eT E
  obtain ⟨v, vm₁, ⟨T', L', k', n'⟩, -, X', hS', hgr, ⟨Lc, hQ, l1, y1, z1⟩, s'⟩ := X.virtualBackS hG.1 (y := x) (z := z) hown (mvT hZ' wl) (mvT hZ' wd) (wn _ hZ') (mvT hZ' wsel) (mvT hZ' wi) hy (Met.wideBack (W := W) (len := 3) M hZ' hE (hB rfl) wc wz hf hl) qa qc (g := mkF G.m pc Ls (argsL.reverse ++ .ref a :: st)) rfl hsz (Steps.refl _) (argsL := argsL) (rest := st) (lenOf pd hlen) rfl (by show 2 * 0 + _ ≤ _; omega) (hb hG.2.1 hd) (fun _ _ => ⟨rfl, eT, hc, hs⟩)
  dsimp only [Pt.U, Pt.locs, Pt.cells, Pt.slots] at X' l1 y1 z1 s' hQ hS' hgr
  subst l1 y1 z1
  obtain ⟨J', ⟨hQ, hBc⟩, hFc, hEc⟩ := hQ
  obtain ⟨X2, hS2, hZ2, hown2⟩ := rebS (k0 := k0) (n1 := T.heap.size) hS (by rw [eT]; exact hk) X' hS' hgr hZ' hown
  obtain ⟨s₂, o, hs2, rr⟩ := H v T'.heap J' hQ hG hsz T' _ ⟨T'.vm, T'.heap.size, X2, rfl, hS2, Nat.le_refl _, hZ2, hown2, nofun, fun _ => hBc, hEc, Fr.app hF hFc⟩
  exact ⟨s₂, o, s'.trans hs2, rr⟩
theorem Wlk.callP {z : MethodName} {index : Nat} {zc : ByteArray} {zm : Nat} {rm : Room} {argsL : List Value} {stk : List Value} {W : Nat} {ps : List FieldType} {r : Option FieldType} {Q' : Option Value → Heap → JJ → Prop} {zr : Option FieldType} {a : Addr} {J0 : JJ} (hd : decode code pc = .ok (.invokevirtual index, 3)) (wl : (Cond.methodLink y.cls index z).before a0 Z = true) (wi : (Cond.instanceMethod z).before a0 Z = true) (wsel : (Cond.selects z.cls z z).before a0 Z = true) (wp : (Cond.privateMethod z).before a0 Z = true) {C : String} (E : Exa Z h a C) (wz : (Cond.initialized z.cls).before a0 Z = true) (wc : (Cond.code z zc zm zr).before a0 Z = true) (hy : z.cls ≠ "java/lang/invoke/MethodHandle" ∧ z.cls ≠ "java/lang/invoke/VarHandle")
    (pd : parseMethodDescriptor z.desc = some ⟨ps, r⟩) (hlen : argsL.length = ps.length) (M : Met G.l Z z zc zm zr false [] rm (.ref a :: argsL).toArray h J0 Q') (hf : rm.frames + 1 ≤ R.frames) (hW : (st.map fun v => v.category).sum = W) (hl : W + (zm + 11) + rm.locals ≤ R.locals) (hc : k + rm.cells ≤ R.cells) (hs : n + rm.slots ≤ R.slots) (hst : stk = argsL.reverse ++ .ref a :: st) (hp : pc + 3 = pc')
    (H : ∀ v h' J', Q' v h' J' → Wlk G R Z y code ret w J Q h' (k + rm.cells) (n + rm.slots) pc' Ls (v.toList ++ st)) : Wlk G R Z y code ret w J Q h k n pc Ls stk := by
  subst hp hst
  intro hG hsz T L hP
  obtain ⟨vm0, k0, X, eT, hS, hk, hZ, hown, hw, hB, hE, hF⟩ := hP
  have hZ' : Z.Warmed39 (G.s.setVm vm0).vm := hZ
  obtain ⟨cq, q1, q2⟩ := E.cell
  obtain ⟨v, vm₁, ⟨T', L', k', n'⟩, -, X', ⟨Lc, hQ, l1, y1, z1⟩, s'⟩ := X.privateBack hG.1 (y := z) hown (mvT hZ' wl) (mvT hZ' wi) (mvT hZ' wsel) (Cond.privateMethod_at (mvP hZ' wp (args := #[]))) (mvT hZ' wc) hy (backOf (W := W) (len := 3) (Q := fun v h' L => (∃ J', Q' v h' J') ∧ Fr Z.heap.size L ∧ Ext Z.heap h' ∧ h.size ≤ h'.size) (M.narrow hE) hZ' wc wz hf hl) (g := mkF G.m pc Ls (argsL.reverse ++ .ref a :: st)) rfl hsz (Steps.refl _) (a := a) (by rw [eT]; exact q1) q2 (argsL := argsL) (rest := st) (lenOf pd hlen) rfl (by show 2 * 0 + _ ≤ _; omega) (hb hG.2.1 hd) (fun _ _ => ⟨rfl, eT, hc, hs⟩)
  dsimp only [Pt.U, Pt.locs, Pt.cells, Pt.slots] at X' l1 y1 z1 s' hQ
  subst l1 y1 z1
  obtain ⟨⟨J', hQ⟩, hFc, hEc, hgr⟩ := hQ
  obtain ⟨s₂, o, hs2, rr⟩ := H v T'.heap J' hQ hG hsz T' _ ⟨vm0, k0, X', rfl, hS, Nat.le_trans hk hgr, hZ, hown, hw, hB, hEc, Fr.app hF hFc⟩
  exact ⟨s₂, o, s'.trans hs2, rr⟩
theorem Wlk.callPw {z : MethodName} {index : Nat} {zc : ByteArray} {zm : Nat} {rm : Room} {argsL : List Value} {stk : List Value} {W : Nat} {ps : List FieldType} {r : Option FieldType} {Q' : Option Value → Heap → JJ → Prop} {zr : Option FieldType} {a : Addr} (hd : decode code pc = .ok (.invokevirtual index, 3)) (wl : (Cond.methodLink y.cls index z).before a0 Z = true) (wi : (Cond.instanceMethod z).before a0 Z = true) (wsel : (Cond.selects z.cls z z).before a0 Z = true) (wp : (Cond.privateMethod z).before a0 Z = true) {C : String} (E : Exa Z h a C) (wz : (Cond.initialized z.cls).before a0 Z = true) (wc : (Cond.code z zc zm zr).before a0 Z = true) (hy : z.cls ≠ "java/lang/invoke/MethodHandle" ∧ z.cls ≠ "java/lang/invoke/VarHandle")
    (pd : parseMethodDescriptor z.desc = some ⟨ps, r⟩) (hlen : argsL.length = ps.length) (M : Met G.l Z z zc zm zr true [] rm (.ref a :: argsL).toArray h J Q') (hf : rm.frames + 1 ≤ R.frames) (hW : (st.map fun v => v.category).sum = W) (hl : W + (zm + 11) + rm.locals ≤ R.locals) (hc : k + rm.cells ≤ R.cells) (hs : n + rm.slots ≤ R.slots) (hst : stk = argsL.reverse ++ .ref a :: st) (hp : pc + 3 = pc')
    (H : ∀ v h' J', Q' v h' J' → Wlk G R Z y code ret true J' Q h' (k + rm.cells) (n + rm.slots) pc' Ls (v.toList ++ st)) : Wlk G R Z y code ret true J Q h k n pc Ls stk := by
  subst hp hst
  intro hG hsz T L hP
  obtain ⟨vm0, k0, X, eT, hS, hk, hZ, hown, hw, hB, hE, hF⟩ := hP
  have hZ' : Z.Warmed39 (G.s.setVm vm0).vm := hZ
  obtain ⟨cq, q1, q2⟩ := E.cell
  obtain ⟨v, vm₁, ⟨T', L', k', n'⟩, -, X', hS', hgr, ⟨Lc, hQ, l1, y1, z1⟩, s'⟩ := X.privateBackS hG.1 (y := z) hown (mvT hZ' wl) (mvT hZ' wi) (mvT hZ' wsel) (Cond.privateMethod_at (mvP hZ' wp (args := #[]))) (mvT hZ' wc) hy (Met.wideBack (W := W) (len := 3) M hZ' hE (hB rfl) wc wz hf hl) (g := mkF G.m pc Ls (argsL.reverse ++ .ref a :: st)) rfl hsz (Steps.refl _) (a := a) (by rw [eT]; exact q1) q2 (argsL := argsL) (rest := st) (lenOf pd hlen) rfl (by show 2 * 0 + _ ≤ _; omega) (hb hG.2.1 hd) (fun _ _ => ⟨rfl, eT, hc, hs⟩)
  dsimp only [Pt.U, Pt.locs, Pt.cells, Pt.slots] at X' l1 y1 z1 s' hQ hS' hgr
  subst l1 y1 z1
  obtain ⟨J', ⟨hQ, hBc⟩, hFc, hEc⟩ := hQ
  obtain ⟨X2, hS2, hZ2, hown2⟩ := rebS (k0 := k0) (n1 := T.heap.size) hS (by rw [eT]; exact hk) X' hS' hgr hZ' hown
  obtain ⟨s₂, o, hs2, rr⟩ := H v T'.heap J' hQ hG hsz T' _ ⟨T'.vm, T'.heap.size, X2, rfl, hS2, Nat.le_refl _, hZ2, hown2, nofun, fun _ => hBc, hEc, Fr.app hF hFc⟩
  exact ⟨s₂, o, s'.trans hs2, rr⟩
theorem Wlk.callI {z : MethodName} {index : Nat} {zc : ByteArray} {zm : Nat} {rm : Room} {argsL : List Value} {stk : List Value} {W : Nat} {ps : List FieldType} {r : Option FieldType} {Q' : Option Value → Heap → JJ → Prop} {zr : Option FieldType} {a : Addr} {x : MethodName} {C : String} {count : Nat} {J0 : JJ} (hd : decode code pc = .ok (.invokeinterface index count, 5)) (wl : (Cond.methodLink y.cls index x).before a0 Z = true) (wd : (Cond.declares x).before a0 Z = true) (wf : ∀ s : State, Z.Warmed39 s.vm → (Cond.interfaceMethod x.cls x.cls x.name x.desc).before G.args s = true) (wsel : (Cond.selects C x z).before a0 Z = true) (wi : (Cond.instanceMethod z).before a0 Z = true) (wpub : (Cond.publicMethod z).before a0 Z = true) (wun : (Cond.unhidden C x.name x.desc).before a0 Z = true) (wca : (Cond.castable C x.cls).before a0 Z = true) (E : Exa Z h a C) (wz : (Cond.initialized z.cls).before a0 Z = true) (wc : (Cond.code z zc zm zr).before a0 Z = true) (hy : x.cls ≠ "java/lang/invoke/MethodHandle" ∧ x.cls ≠ "java/lang/invoke/VarHandle")
    (pd : parseMethodDescriptor x.desc = some ⟨ps, r⟩) (hlen : argsL.length = ps.length) (M : Met G.l Z z zc zm zr false [] rm (.ref a :: argsL).toArray h J0 Q') (hf : rm.frames + 1 ≤ R.frames) (hW : (st.map fun v => v.category).sum = W) (hl : W + (zm + 11) + rm.locals ≤ R.locals) (hc : k + rm.cells ≤ R.cells) (hs : n + rm.slots ≤ R.slots) (hst : stk = argsL.reverse ++ .ref a :: st) (hp : pc + 5 = pc')
    (H : ∀ v h' J', Q' v h' J' → Wlk G R Z y code ret w J Q h' (k + rm.cells) (n + rm.slots) pc' Ls (v.toList ++ st)) : Wlk G R Z y code ret w J Q h k n pc Ls stk := by
  subst hp hst
  intro hG hsz T L hP
  obtain ⟨vm0, k0, X, eT, hS, hk, hZ, hown, hw, hB, hE, hF⟩ := hP
  have hZ' : Z.Warmed39 (G.s.setVm vm0).vm := hZ
  obtain ⟨cq, kq, qa, qb, qc⟩ := isOf hZ' eT E
  obtain ⟨v, vm₁, ⟨T', L', k', n'⟩, -, X', ⟨Lc, hQ, l1, y1, z1⟩, s'⟩ := X.interfaceBack hG.1 (xi := x) (y := z) hown (mvT hZ' wl) (mvT hZ' wd) (wf _ hZ') (mvT hZ' wsel) (mvT hZ' wi) (mvT hZ' wpub) (mvT hZ' wun) (mvT hZ' wca) hy (backOf (W := W) (len := 5) (Q := fun v h' L => (∃ J', Q' v h' J') ∧ Fr Z.heap.size L ∧ Ext Z.heap h' ∧ h.size ≤ h'.size) (M.narrow hE) hZ' wc wz hf hl) qa qb qc (g := mkF G.m pc Ls (argsL.reverse ++ .ref a :: st)) rfl hsz (Steps.refl _) (argsL := argsL) (rest := st) (lenOf pd hlen) rfl (by show 2 * 0 + _ ≤ _; omega) (hb hG.2.1 hd) (fun _ _ => ⟨rfl, eT, hc, hs⟩)
  dsimp only [Pt.U, Pt.locs, Pt.cells, Pt.slots] at X' l1 y1 z1 s' hQ
  subst l1 y1 z1
  obtain ⟨⟨J', hQ⟩, hFc, hEc, hgr⟩ := hQ
  obtain ⟨s₂, o, hs2, rr⟩ := H v T'.heap J' hQ hG hsz T' _ ⟨vm0, k0, X', rfl, hS, Nat.le_trans hk hgr, hZ, hown, hw, hB, hEc, Fr.app hF hFc⟩
  exact ⟨s₂, o, s'.trans hs2, rr⟩
theorem Wlk.callIw {z : MethodName} {index : Nat} {zc : ByteArray} {zm : Nat} {rm : Room} {argsL : List Value} {stk : List Value} {W : Nat} {ps : List FieldType} {r : Option FieldType} {Q' : Option Value → Heap → JJ → Prop} {zr : Option FieldType} {a : Addr} {x : MethodName} {C : String} {count : Nat} (hd : decode code pc = .ok (.invokeinterface index count, 5)) (wl : (Cond.methodLink y.cls index x).before a0 Z = true) (wd : (Cond.declares x).before a0 Z = true) (wf : ∀ s : State, Z.Warmed39 s.vm → (Cond.interfaceMethod x.cls x.cls x.name x.desc).before G.args s = true) (wsel : (Cond.selects C x z).before a0 Z = true) (wi : (Cond.instanceMethod z).before a0 Z = true) (wpub : (Cond.publicMethod z).before a0 Z = true) (wun : (Cond.unhidden C x.name x.desc).before a0 Z = true) (wca : (Cond.castable C x.cls).before a0 Z = true) (E : Exa Z h a C) (wz : (Cond.initialized z.cls).before a0 Z = true) (wc : (Cond.code z zc zm zr).before a0 Z = true) (hy : x.cls ≠ "java/lang/invoke/MethodHandle" ∧ x.cls ≠ "java/lang/invoke/VarHandle")
    (pd : parseMethodDescriptor x.desc = some ⟨ps, r⟩) (hlen : argsL.length = ps.length) (M : Met G.l Z z zc zm zr true [] rm (.ref a :: argsL).toArray h J Q') (hf : rm.frames + 1 ≤ R.frames) (hW : (st.map fun v => v.category).sum = W) (hl : W + (zm + 11) + rm.locals ≤ R.locals) (hc : k + rm.cells ≤ R.cells) (hs : n + rm.slots ≤ R.slots) (hst : stk = argsL.reverse ++ .ref a :: st) (hp : pc + 5 = pc')
    (H : ∀ v h' J', Q' v h' J' → Wlk G R Z y code ret true J' Q h' (k + rm.cells) (n + rm.slots) pc' Ls (v.toList ++ st)) : Wlk G R Z y code ret true J Q h k n pc Ls stk := by
  subst hp hst
  intro hG hsz T L hP
  obtain ⟨vm0, k0, X, eT, hS, hk, hZ, hown, hw, hB, hE, hF⟩ := hP
  have hZ' : Z.Warmed39 (G.s.setVm vm0).vm := hZ
  obtain ⟨cq, kq, qa, qb, qc⟩ := isOf hZ' eT E
  obtain ⟨v, vm₁, ⟨T', L', k', n'⟩, -, X', hS', hgr, ⟨Lc, hQ, l1, y1, z1⟩, s'⟩ := X.interfaceBackS hG.1 (xi := x) (y := z) hown (mvT hZ' wl) (mvT hZ' wd) (wf _ hZ') (mvT hZ' wsel) (mvT hZ' wi) (mvT hZ' wpub) (mvT hZ' wun) (mvT hZ' wca) hy (Met.wideBack (W := W) (len := 5) M hZ' hE (hB rfl) wc wz hf hl) qa qb qc (g := mkF G.m pc Ls (argsL.reverse ++ .ref a :: st)) rfl hsz (Steps.refl _) (argsL := argsL) (rest := st) (lenOf pd hlen) rfl (by show 2 * 0 + _ ≤ _; omega) (hb hG.2.1 hd) (fun _ _ => ⟨rfl, eT, hc, hs⟩)
  dsimp only [Pt.U, Pt.locs, Pt.cells, Pt.slots] at X' l1 y1 z1 s' hQ hS' hgr
  subst l1 y1 z1
  obtain ⟨J', ⟨hQ, hBc⟩, hFc, hEc⟩ := hQ
  obtain ⟨X2, hS2, hZ2, hown2⟩ := rebS (k0 := k0) (n1 := T.heap.size) hS (by rw [eT]; exact hk) X' hS' hgr hZ' hown
  obtain ⟨s₂, o, hs2, rr⟩ := H v T'.heap J' hQ hG hsz T' _ ⟨T'.vm, T'.heap.size, X2, rfl, hS2, Nat.le_refl _, hZ2, hown2, nofun, fun _ => hBc, hEc, Fr.app hF hFc⟩
  exact ⟨s₂, o, s'.trans hs2, rr⟩
/-- a constructor that a pasted law of the kit pays -/
theorem Wlk.callCB {z : MethodName} {index : Nat} {zc : ByteArray} {zm ck cs : Nat} {argsL : List Value} {stk : List Value} {W : Nat} {ps : List FieldType} {r : Option FieldType} {QQ : Option Value → Heap → List Loc → Prop} {a : Addr} (hd : decode code pc = .ok (.invokespecial index, 3)) (wl : (Cond.methodLink y.cls index z).before a0 Z = true) (wi : (Cond.instanceMethod z).before a0 Z = true) (wc : (Cond.code z zc zm none).before a0 Z = true) (hy : z.cls ≠ "java/lang/invoke/MethodHandle" ∧ z.cls ≠ "java/lang/invoke/VarHandle") (hin : z.name = "<init>")
    (pd : parseMethodDescriptor z.desc = some ⟨ps, r⟩) (hlen : argsL.length = ps.length) (hW : (st.map fun v => v.category).sum = W)
    (hK : ∀ s : State, Z.Warmed39 s.vm → Ext Z.heap h → Back G.l R G.p G.e G.below s G.args z 3 W (fun P v => v = (.ref a :: argsL).toArray ∧ P.U.heap = h ∧ P.cells + ck ≤ R.cells ∧ P.slots + cs ≤ R.slots) (fun P _ v B => ∃ L, QQ v B.U.heap L ∧ B.locs = P.locs ++ L ∧ B.cells = P.cells + ck ∧ B.slots = P.slots + cs))
    (hQ : ∀ v h' L, Ext Z.heap h → QQ v h' L → Fr Z.heap.size L ∧ Ext Z.heap h' ∧ h.size ≤ h'.size) (hc : k + ck ≤ R.cells) (hs : n + cs ≤ R.slots) (hst : stk = argsL.reverse ++ .ref a :: st) (hp : pc + 3 = pc')
    (H : ∀ v h' L, QQ v h' L → Wlk G R Z y code ret w J Q h' (k + ck) (n + cs) pc' Ls (v.toList ++ st)) : Wlk G R Z y code ret w J Q h k n pc Ls stk := by
  subst hp hst
  intro hG hsz T L hP
  obtain ⟨vm0, k0, X, eT, hS, hk, hZ, hown, hw, hB, hE, hF⟩ := hP
  have hZ' : Z.Warmed39 (G.s.setVm vm0).vm := hZ
  obtain ⟨v, vm₁, ⟨T', L', k', n'⟩, -, X', ⟨Lc, hQ1, l1, y1, z1⟩, s'⟩ := X.specialBack hG.1 (y := z) hin hown (mvT hZ' wl) (mvT hZ' wi) (mvT hZ' wc) hy (hK _ hZ' hE) (g := mkF G.m pc Ls (argsL.reverse ++ .ref a :: st)) rfl hsz (Steps.refl _) (a := a) (argsL := argsL) (rest := st) (lenOf pd hlen) rfl (by show 2 * 0 + _ ≤ _; omega) (hb hG.2.1 hd) (fun _ _ => ⟨rfl, eT, hc, hs⟩)
  dsimp only [Pt.U, Pt.locs, Pt.cells, Pt.slots] at X' l1 y1 z1 s' hQ1
  subst l1 y1 z1
  obtain ⟨hFc, hEc, hgr⟩ := hQ _ _ _ hE hQ1
  obtain ⟨s₂, o, hs2, rr⟩ := H v T'.heap Lc hQ1 hG hsz T' _ ⟨vm0, k0, X', rfl, hS, Nat.le_trans hk hgr, hZ, hown, hw, hB, hEc, Fr.app hF hFc⟩
  exact ⟨s₂, o, s'.trans hs2, rr⟩
theorem ext_keep {a : Addr} {h' : Heap} (hE : Ext Z.heap h) (g : Z.heap.size ≤ a) (K : Keep h h' [a]) : Ext Z.heap h' := (Old.keep (n0 := Z.heap.size) ⟨rfl, hE⟩ K (allS g all0)).2
/-! ## String constants (wide walks) -/
theorem Stand.rebase {p : Program} {l : Launch} {e : Env} {s : State} {m : MethodId} {args : Array Value} {below : List Frame} {meth : Method} {c : Code} {T : State} {locs : List Loc} {cells slots ck cs : Nat} (X : Stand p l e R s m args below meth c T locs cells slots) (hc : cells + ck ≤ R.cells) (hs : slots + cs ≤ R.slots) :
    Stand p l e ({ frames := R.frames, cells := ck, slots := cs, locals := R.locals } : Room) (({ s with heap := T.heap, slotsUsed := T.slotsUsed } : State).setVm T.vm) m args below meth c T [] 0 0 := by
  have Y := X.retabled X.warmed.wide
  have hroom : (({ s with heap := T.heap, slotsUsed := T.slotsUsed } : State).setVm T.vm).hasRoom e.platform ({ frames := R.frames, cells := ck, slots := cs, locals := R.locals } : Room) = true := by
    have h0 := Y.room
    have h1 := X.heapSize
    have h2 := X.used
    have h3 := X.book
    simp only [State.hasRoom, Bool.and_eq_true, decide_eq_true_eq] at h0 ⊢
    obtain ⟨⟨⟨⟨a1, a2⟩, a3⟩, a4⟩, a5⟩ := h0
    refine ⟨⟨⟨⟨a1, a2⟩, ?_⟩, ?_⟩, h3⟩
    · have a3' : s.heap.size + R.cells ≤ e.platform.maxCells := a3
      show T.heap.size + ck ≤ _
      omega
    · have a4' : s.slotsUsed + R.slots ≤ e.platform.maxSlots := a4
      show T.slotsUsed + cs ≤ _
      omega
  refine ⟨Y.admits, Y.cas, Y.clock, Y.frames, hroom, Y.hears, Y.method, Y.code, X.here, X.tail, State.WarmedH.refl T, X.limits, X.bytes, ?_⟩
  refine ⟨?_, Nat.le_refl _, Nat.le_refl _, ?_, ?_, fun a cl ha => ⟨cl, ha, rfl, rfl, fun _ _ => rfl⟩⟩
  · have q := Y.same.1
    exact q
  · show T.slotsUsed = T.slotsUsed + ((T.heap.toList.drop T.heap.size).map (·.slots.size)).sum
    rw [List.drop_eq_nil_of_le (Nat.le_of_eq Array.length_toList)]
    rfl
  · show ((T.heap.toList.drop T.heap.size).map (·.slots.size)).sum ≤ 0
    rw [List.drop_eq_nil_of_le (Nat.le_of_eq Array.length_toList)]
    exact Nat.le_refl _
theorem Stand.unbase {p : Program} {l : Launch} {e : Env} {s : State} {m : MethodId} {args : Array Value} {below : List Frame} {meth : Method} {c : Code} {T T' : State} {R' : Room} {locs l₂ : List Loc} {cells slots c₂ n₂ k1 : Nat} (X : Stand p l e R s m args below meth c T locs cells slots)
    (X' : Stand p l e R' (({ s with heap := T.heap, slotsUsed := T.slotsUsed } : State).setVm T'.vm) m args below meth c T' l₂ c₂ n₂) (hS : (({ s with heap := T.heap, slotsUsed := T.slotsUsed } : State).setVm T.vm).Since T'.vm k1) (hk : k1 ≤ T'.heap.size) :
    Stand p l e R (s.setVm T'.vm) m args below meth c T' (locs ++ l₂) (cells + c₂) (slots + n₂) ∧ s.Since T'.vm T'.heap.size ∧ T.Warmed39 T'.vm := by
  have hW : T.Warmed39 T'.vm := hS.1
  obtain ⟨q1, q2⟩ := X.movedW (T₂ := T') X'.here X'.tail (X'.limits.trans X.limits.symm) (X'.bytes.trans X.bytes.symm) hW (hS.2.mono hk) (by
    obtain ⟨b1, b2, b3, b4, b5, b6⟩ := X'.same
    refine ⟨?_, b2, b3, b4, b5, b6⟩
    have e1 := X.same.1
    have e2 : T.setFrames T'.frames = ({ s.setFrames T'.frames with heap := T.heap, slotsUsed := T.slotsUsed } : State).setVm T.vm := by
      have e3 : (T.setVm s.vm).setFrames T'.frames = ({ s.setFrames T.frames with heap := T.heap, slotsUsed := T.slotsUsed } : State).setFrames T'.frames := congrArg (fun u : State => u.setFrames T'.frames) e1
      have e4 : ({ s.setFrames T.frames with heap := T.heap, slotsUsed := T.slotsUsed } : State).setFrames T'.frames = ({ s.setFrames T'.frames with heap := T.heap, slotsUsed := T.slotsUsed } : State) := by
        have := State.setFrames_setFrames s T.frames T'.frames
        show ({ (s.setFrames T.frames).setFrames T'.frames with heap := T.heap, slotsUsed := T.slotsUsed } : State) = _
        rw [this]
      have e5 := congrArg (fun u : State => u.setVm T.vm) (e3.trans e4)
      exact e5
    have b1' : T'.setVm T'.vm = ({ ((({ s with heap := T.heap, slotsUsed := T.slotsUsed } : State).setVm T'.vm).setFrames T'.frames) with heap := T'.heap, slotsUsed := T'.slotsUsed } : State) := b1
    have b2' := congrArg (fun u : State => u.setVm T.vm) b1'
    show T'.setVm T.vm = ({ T.setFrames T'.frames with heap := T'.heap, slotsUsed := T'.slotsUsed } : State)
    rw [e2]
    exact b2')
  exact ⟨q1, q2, hW⟩
/-- a constant's first load: what is pushed is a Latin-1 String with the text's bytes -/
theorem Wlk.ldcNew {index nn : Nat} {text : String} {Ts : List String} {Lt : List (String × Nat × Addr)} {vs : List Value} {z : Int32} (hd : decode code pc = .ok (.ldc index, 2)) (wl : (Cond.stringLink y.cls index text).before a0 Z = true) (wS : ∀ a ∈ Bundle.stringAtoms, a.before a0 Z = true) (hnot : text ∉ Ts) (hh : Jvm.Lit.constHeld Z y.cls index) (hcw : Jvm.Lit.compactW.before a0 Z = true)
    (ht : (∀ c ∈ text.toList, c.toNat < 256) ∧ text.toList.map (fun c => Value.int (Jvm.Lit.byteI c.toNat.toUInt16)) = vs) (hz : ¬ z < 0) (hl : z.toNatClampNeg = vs.length) (hn : 4 * text.toList.length ≤ nn) (hbig : nn ≤ 536870912) (hc : k + 2 ≤ R.cells) (hs : n + (nn + 4) ≤ R.slots) (hp : pc + 2 = pc')
    (H : ∀ (a b : Addr) (kb : ClassId) (h' : Heap), Ext h h' → Exa Z h' a "java/lang/String" → Fld Z h' a "java/lang/String" "coder" "B" (.int 0) → Fld Z h' a "java/lang/String" "value" "[B" (.ref b) → Arv Z h' b kb .byte z vs (.int 0) → Wlk G R Z y code ret true (true, text :: Ts, (y.cls, index, a) :: Lt) Q h' (k + 2) (n + (nn + 4)) pc' Ls (.ref a :: st)) :
    Wlk G R Z y code ret true (true, Ts, Lt) Q h k n pc Ls st := by
  subst hp
  intro hG hsz T L hP
  obtain ⟨vm0, k0, X, eT, hS, hk, hZ, hown, hw, hB, hE, hF⟩ := hP
  have hWT : (G.s.setVm vm0).WarmedH T.vm := X.warmed
  have hBT : Books Z T.vm (true, Ts, Lt) := Books.warm (s := G.s) (hB rfl) hWT
  have hZT : Z.Warmed39 T.vm := State.Warmed39.trans (t := G.s.setVm vm0) hZ hWT.wide
  have hownT : T.vm.findClass y.cls = some G.m.cls := by rw [hWT.alike.findClass]; exact hown
  have Y := Stand.rebase (ck := 2) (cs := nn + 4) X hc hs
  obtain ⟨a, T', h', k1, b, kb, X', e', E', hS', hk', hZ', hown', A1, A2, A3, A4, -, -, I', Lit', s'⟩ := ldcSVL (s := ({ G.s.setVm vm0 with heap := T.heap, slotsUsed := T.slotsUsed } : State).setVm T.vm) (vm0 := T.vm) (g := mkF G.m pc Ls st) Y hG.1 hZT hownT wl wS eT (k0 := 0) ((State.WarmedH.refl (({ G.s.setVm vm0 with heap := T.heap, slotsUsed := T.slotsUsed } : State).setVm T.vm)).since 0) (Nat.zero_le _) (Fr.nil _) (fun b cl q => by show T.heap[b]? = some cl; rw [eT]; exact hE.2 b cl q) (hBT rfl).1 hnot hh hcw ht hz hl rfl (hb hG.2.1 hd) hn hbig (by show 0 + 2 ≤ 2; omega) (by show 0 + (nn + 4) ≤ nn + 4; omega)
  obtain ⟨X2, hS2, hWT'⟩ := Stand.unbase X X' hS' (by rw [e']; exact hk')
  have eL : L ++ [] = L := List.append_nil L
  rw [eL] at X2
  have X3 := X2.mono (cells' := k + 2) (slots' := n + (nn + 4)) (by omega) (by omega)
  have hEh : Ext Z.heap h' := ⟨Nat.le_trans hE.1 E'.1, fun x cl q => E'.2 x cl (hE.2 x cl q)⟩
  have hB' : Books Z T'.vm (true, text :: Ts, (y.cls, index, a) :: Lt) := fun _ => ⟨I', fun x hx => by
    rcases List.mem_cons.mp hx with rfl | hx
    · exact Lit'
    · exact Lit.stays (s := T) ((hBT rfl).2 x hx) hWT'⟩
  obtain ⟨s₂, o, hs2, rr⟩ := H a b kb h' E' A1 A2 A3 A4 hG hsz T' L ⟨T'.vm, T'.heap.size, X3, e', hS.trans hS2 (by rw [e']; exact Nat.le_trans hk E'.1), by rw [e']; exact Nat.le_refl _, hZ', hown', nofun, fun _ => hB', hEh, hF⟩
  exact ⟨s₂, o, s' _ hs2, rr⟩
/-- a load of an entry that is known to be resolved -/
theorem Wlk.ldcOld {index : Nat} {text : String} {Ts : List String} {Lt : List (String × Nat × Addr)} {a : Addr} (hd : decode code pc = .ok (.ldc index, 2)) (wl : (Cond.stringLink y.cls index text).before a0 Z = true) (hin : (y.cls, index, a) ∈ Lt) (hp : pc + 2 = pc')
    (H : Wlk G R Z y code ret true (true, Ts, Lt) Q h k n pc' Ls (.ref a :: st)) : Wlk G R Z y code ret true (true, Ts, Lt) Q h k n pc Ls st := by
  subst hp
  intro hG hsz T L hP
  obtain ⟨s₂, o, hs, r⟩ := H hG hsz T L hP
  obtain ⟨vm0, k0, X, eT, hS, hk, hZ, hown, hw, hB, hE, hF⟩ := hP
  exact ⟨s₂, o, ldcAgain X hG.1 hZ hown wl ((hB rfl rfl).2 _ hin) (g := mkF G.m pc Ls st) rfl (hb hG.2.1 hd) _ hs, r⟩
/-- a load of which nothing is known but that it pushes a reference -/
theorem Wlk.ldcAny {index nn : Nat} {text : String} {J' : JJ} (hJ : J'.1 = false) (hd : decode code pc = .ok (.ldc index, 2)) (wl : (Cond.stringLink y.cls index text).before a0 Z = true) (wS : ∀ a ∈ Bundle.stringAtoms, a.before a0 Z = true) (hn : 4 * text.toList.length ≤ nn) (hbig : nn ≤ 536870912) (hc : k + 2 ≤ R.cells) (hs : n + (nn + 4) ≤ R.slots) (hp : pc + 2 = pc')
    (H : ∀ (a : Addr) (h' : Heap), Ext h h' → Wlk G R Z y code ret true J' Q h' (k + 2) (n + (nn + 4)) pc' Ls (.ref a :: st)) : Wlk G R Z y code ret true J Q h k n pc Ls st := by
  subst hp
  intro hG hsz T L hP
  obtain ⟨vm0, k0, X, eT, hS, hk, hZ, hown, hw, hB, hE, hF⟩ := hP
  obtain ⟨a, T', h', k1, X', e', E', hS', hk', hZ', hown', s'⟩ := ldcS X hG.1 hZ hown wl wS eT hS hk (g := mkF G.m pc Ls st) rfl (hb hG.2.1 hd) hn hbig hc hs
  have hEh : Ext Z.heap h' := ⟨Nat.le_trans hE.1 E'.1, fun x cl q => E'.2 x cl (hE.2 x cl q)⟩
  obtain ⟨s₂, o, hs2, rr⟩ := H a h' E' hG hsz T' L ⟨T'.vm, k1, X', e', hS', hk', hZ', hown', nofun, fun _ q => (by rw [hJ] at q; cases q), hEh, hF⟩
  exact ⟨s₂, o, s' _ hs2, rr⟩
end Walk
end Jvm.Own
namespace Jvm.Own
open Sem ClassFile Op Lib Jvm.Stand Jvm.Free Jvm.LawKit Jvm.RoadKit
/-! ## numbers -/
theorem i32_toInt {i : Nat} (h : i < 2147483648) : (Int32.ofNat i).toInt = i := Int32.toInt_ofNat_small (by omega)
theorem z32 : (0 : Int32).toInt = 0 := by decide
theorem i32_nn {i : Nat} (h : i < 2147483648) : ¬ Int32.ofNat i < 0 := by
  rw [Int32.lt_iff_toInt_lt, i32_toInt h, z32]; omega
theorem i32_cl {i : Nat} (h : i < 2147483648) : (Int32.ofNat i).toNatClampNeg = i := by
  show (Int32.ofNat i).toInt.toNat = i
  rw [i32_toInt h]; rfl
theorem i32_lt {i j : Nat} (hi : i < 2147483648) (hj : j < 2147483648) : Int32.ofNat i < Int32.ofNat j ↔ i < j := by
  rw [Int32.lt_iff_toInt_lt, i32_toInt hi, i32_toInt hj]; omega
theorem i32_eq {i j : Nat} (hi : i < 2147483648) (hj : j < 2147483648) : Int32.ofNat i = Int32.ofNat j ↔ i = j := by
  rw [← Int32.toInt_inj, i32_toInt hi, i32_toInt hj]; omega
theorem i32_add (i j : Nat) : Int32.ofNat i + Int32.ofNat j = Int32.ofNat (i + j) := (Int32.ofNat_add i j).symm
theorem i32_succ (i : Nat) : Int32.ofNat i + 1 = Int32.ofNat (i + 1) := i32_add i 1
/-! ## what a String's bytes are -/
/-- a char's byte in a Latin-1 String -/
def bL (c : Int32) : Int32 := c.toInt8.toInt32
/-- .. its second byte in a UTF-16 one -/
def bH (c : Int32) : Int32 := (c >>> 8).toInt8.toInt32
theorem nar_bL (c : Int32) : nar .byte (bL c) = bL c := by simp [nar, bL]
theorem nar_bH (c : Int32) : nar .byte (bH c) = bH c := by simp [nar, bH]
def vL (cs : List Int32) : List Value := cs.map fun c => .int (bL c)
def vU : List Int32 → List Value
  | [] => []
  | c :: cs => .int (bL c) :: .int (bH c) :: vU cs
def vC (cs : List Int32) : List Value := cs.map Value.int
/-- the chars ahead of the first that is above 255 -/
def lat (cs : List Int32) : List Int32 := cs.takeWhile fun c => decide (¬ (255 : Int32) < c)
theorem lat_app {pre rest : List Int32} (h : ∀ c ∈ pre, ¬ (255 : Int32) < c) : lat (pre ++ rest) = pre ++ lat rest := by
  unfold lat
  rw [List.takeWhile_append_of_pos (fun c hc => decide_eq_true (h c hc))]
theorem lat_all {cs : List Int32} (h : ∀ c ∈ cs, ¬ (255 : Int32) < c) : lat cs = cs := by
  have := lat_app (rest := []) h
  simpa [lat] using this
theorem lat_stop {c : Int32} {rest : List Int32} (h : (255 : Int32) < c) : lat (c :: rest) = [] := by simp [lat, h]
theorem lat_mem : ∀ {cs : List Int32}, lat cs = cs → ∀ c ∈ cs, ¬ (255 : Int32) < c
  | [], _, c, hc => nomatch hc
  | x :: cs, h, c, hc => by
    by_cases hx : (255 : Int32) < x
    · rw [lat_stop hx] at h
      cases h
    · have h2 : lat (x :: cs) = x :: lat cs := by unfold lat; rw [List.takeWhile_cons, if_pos (decide_eq_true hx)]
      rw [h2] at h
      injection h with _ h3
      rcases List.mem_cons.mp hc with rfl | hc
      · exact hx
      · exact lat_mem h3 c hc
end Jvm.Own
namespace Jvm.Own
open Sem ClassFile Op Lib Jvm.Stand Jvm.Free Jvm.LawKit Jvm.RoadKit
theorem set_vL (pre : List Int32) (c : Int32) : (vL pre ++ List.replicate 1 (Value.int 0)).set pre.length (Value.int (nar .byte c.toInt8.toInt32)) = vL (pre ++ [c]) := by
  have e : (vL pre).length = pre.length := by simp [vL]
  rw [← e, List.set_append_right _ _ (Nat.le_refl _)]
  simp [vL, nar, bL]
end Jvm.Own
namespace Jvm.Own
open Sem ClassFile Op Lib Jvm.Stand Jvm.Free Jvm.LawKit Jvm.RoadKit
/-- a Latin-1 String at s, its bytes at t, that spells cs -/
def StrL (Z : State) (h : Heap) (s t : Addr) (cs : List Int32) : Prop :=
  Exa Z h s "java/lang/String" ∧ Fld Z h s "java/lang/String" "value" "[B" (.ref t) ∧ Fld Z h s "java/lang/String" "coder" "B" (.int 0) ∧ ∃ kb, Arv Z h t kb .byte (Int32.ofNat cs.length) (vL cs) (.int 0)
theorem StrL.ext {Z : State} {h h' : Heap} {s t : Addr} {cs : List Int32} (S : StrL Z h s t cs) (E : Ext h h') : StrL Z h' s t cs := by
  obtain ⟨a, b, c, kb, d⟩ := S
  exact ⟨a.ext E, b.ext E, c.ext E, kb, d.ext E⟩
theorem StrL.keep {Z : State} {h h' : Heap} {s t : Addr} {cs : List Int32} {ws : List Addr} (S : StrL Z h s t cs) (K : Keep h h' ws) (q1 : s ∉ ws) (q2 : t ∉ ws) : StrL Z h' s t cs := by
  obtain ⟨a, b, c, kb, d⟩ := S
  exact ⟨a.keep K, b.keep K q1, c.keep K q1, kb, d.keep K q2⟩
theorem StrL.wr {Z : State} {h h' : Heap} {s t a : Addr} {cs : List Int32} {sl : Nat} {v : Value} (S : StrL Z h s t cs) (W : Wr h h' a sl v) (q1 : s ≠ a) (q2 : t ≠ a) : StrL Z h' s t cs := by
  obtain ⟨x, b, c, kb, d⟩ := S
  exact ⟨x.wr W, b.other W (Or.inl q1), c.other W (Or.inl q1), kb, d.other W q2⟩
theorem StrL.lt {Z : State} {h : Heap} {s t : Addr} {cs : List Int32} (S : StrL Z h s t cs) : s < h.size := S.1.lt
theorem StrL.ltT {Z : State} {h : Heap} {s t : Addr} {cs : List Int32} (S : StrL Z h s t cs) : t < h.size := by obtain ⟨-, -, -, kb, d⟩ := S; exact d.lt
end Jvm.Own
namespace Jvm.Own
open Sem ClassFile Op Lib Jvm.Stand Jvm.Free Jvm.LawKit Jvm.RoadKit
theorem sto_arv {Z : State} {h : Heap} {a x : Addr} {k : ClassId} {ty : FieldType} {z : Int32} {vs : List Value} {d : Value} {C : String} (A : Arv Z h a k ty z vs d) (O : Ovr Z k C) (I : Ins Z h x C true) : Sto Z h a (.ref x) := by
  obtain ⟨c, Ar, q, -⟩ := A
  exact Sto.ofV Ar q O I
end Jvm.Own
namespace Jvm.Own
open Sem ClassFile Op Lib Jvm.Stand Jvm.Free Jvm.LawKit Jvm.RoadKit
/-! ## UTF-16 -/
theorem nar_char {c : Int32} (h0 : ¬ c < 0) (h1 : ¬ (65535 : Int32) < c) : nar .char c = c := by
  have e := c_i2c c
  have h7 : (65535 : Int32).toInt = 65535 := by decide
  rw [Int32.lt_iff_toInt_lt, z32] at h0
  rw [Int32.lt_iff_toInt_lt, h7] at h1
  apply Int32.toInt_inj.mp
  show c.toUInt32.toUInt16.toUInt32.toInt32.toInt = c.toInt
  omega
theorem vU_len (cs : List Int32) : (vU cs).length = 2 * cs.length := by
  induction cs with
  | nil => rfl
  | cons c cs ih => simp only [vU, List.length_cons, ih]; omega
theorem vU_app (pre : List Int32) (c : Int32) : vU (pre ++ [c]) = vU pre ++ [.int (bL c), .int (bH c)] := by
  induction pre with
  | nil => rfl
  | cons x pre ih => simp only [List.cons_append, vU, ih]
theorem vU_set (pre : List Int32) (c : Int32) : ((vU pre ++ List.replicate 2 (Value.int 0)).set (2 * pre.length) (.int (bL c))).set (2 * pre.length + 1) (.int (bH c)) = vU (pre ++ [c]) := by
  rw [vU_app]
  have e : (vU pre).length = 2 * pre.length := vU_len pre
  rw [← e, List.set_append_right _ _ (Nat.le_refl _), List.set_append_right _ _ (Nat.le_succ _)]
  simp
theorem vU_get : ∀ {cs : List Int32} {i : Nat} {c : Int32}, cs[i]? = some c → (vU cs)[2 * i]? = some (.int (bL c)) ∧ (vU cs)[2 * i + 1]? = some (.int (bH c))
  | [], i, c, h => by simp at h
  | x :: cs, 0, c, h => by
    simp only [List.getElem?_cons_zero, Option.some.injEq] at h
    subst h
    exact ⟨rfl, rfl⟩
  | x :: cs, i + 1, c, h => by
    have h' : cs[i]? = some c := by simpa using h
    have q := vU_get h'
    have e1 : 2 * (i + 1) = (2 * i) + 1 + 1 := by omega
    rw [e1]
    simp only [vU, List.getElem?_cons_succ]
    exact q
theorem i32_shl1 (i : Nat) (h : i < 1073741823) : Int32.ofNat i <<< ((1 : Int32) &&& 31) = Int32.ofNat (2 * i) := by
  apply Int32.toInt_inj.mp
  have e := c_ishl (Int32.ofNat i) 1 1 (by decide)
  have r := rng32 (Int32.ofNat i <<< ((1 : Int32) &&& 31))
  rw [i32_toInt (by omega)] at e
  rw [i32_toInt (by omega)]
  omega
theorem u_lo (c : Int32) : nar .byte ((c >>> ((0 : Int32) &&& 31)).toInt8.toInt32) = bL c := by
  have e : c >>> ((0 : Int32) &&& 31) = c := by
    apply Int32.toInt_inj.mp
    rw [c_ishr c 0 0 (by decide)]
    simp
  rw [e]
  exact nar_bL c
theorem u_hi (c : Int32) : nar .byte ((c >>> ((8 : Int32) &&& 31)).toInt8.toInt32) = bH c := by
  have e : c >>> ((8 : Int32) &&& 31) = c >>> 8 := rfl
  rw [e]
  exact nar_bH c
theorem m255 (x : Int32) : (x &&& (255 : Int32)).toInt = x.toInt % 256 := by
  have := c_mask x 255 8 (by omega) (by decide)
  simpa using this
theorem u_get {c : Int32} (h0 : ¬ c < 0) (h1 : ¬ (65535 : Int32) < c) :
    nar .char ((((bL c &&& (255 : Int32)) <<< ((0 : Int32) &&& 31)) ||| ((bH c &&& (255 : Int32)) <<< ((8 : Int32) &&& 31))).toUInt32.toUInt16.toUInt32.toInt32) = c := by
  have h7 : (65535 : Int32).toInt = 65535 := by decide
  rw [Int32.lt_iff_toInt_lt, z32] at h0
  rw [Int32.lt_iff_toInt_lt, h7] at h1
  apply Int32.toInt_inj.mp
  obtain ⟨x, hx⟩ : ∃ x, x = (bL c &&& (255 : Int32)) <<< ((0 : Int32) &&& 31) := ⟨_, rfl⟩
  obtain ⟨z, hz⟩ : ∃ z, z = (bH c &&& (255 : Int32)) <<< ((8 : Int32) &&& 31) := ⟨_, rfl⟩
  rw [← hx, ← hz]
  have b1 := c_i2b c
  have b2 := c_i2b (c >>> 8)
  have b3 : (c >>> (8 : Int32)).toInt = c.toInt / 256 := c_ishr c 8 8 (by decide)
  have ex : x.toInt = c.toInt % 256 := by
    have e1 := c_ishl (bL c &&& 255) 0 0 (by decide)
    have e2 := m255 (bL c)
    have e3 : (bL c).toInt = c.toInt8.toInt32.toInt := rfl
    have r := rng32 x
    rw [← hx] at e1
    omega
  have ez : z.toInt = (c.toInt / 256) * 256 := by
    have e1 := c_ishl (bH c &&& 255) 8 8 (by decide)
    have e2 := m255 (bH c)
    have e3 : (bH c).toInt = (c >>> 8).toInt8.toInt32.toInt := rfl
    have r := rng32 z
    rw [← hz] at e1
    omega
  have eo := c_or' x z 8 (by omega) 256 (by decide) (by omega) (by omega) (by omega)
  have ro := rng32 (x ||| z)
  have e1 := c_i2c (x ||| z)
  have e2 := c_i2c ((x ||| z).toUInt32.toUInt16.toUInt32.toInt32)
  show ((x ||| z).toUInt32.toUInt16.toUInt32.toInt32).toUInt32.toUInt16.toUInt32.toInt32.toInt = c.toInt
  omega
theorem lat_next : ∀ {cs : List Int32}, ¬ lat cs = cs → ∃ c rest, cs = lat cs ++ c :: rest ∧ (255 : Int32) < c
  | [], h => absurd rfl h
  | x :: cs, h => by
    by_cases hx : (255 : Int32) < x
    · exact ⟨x, cs, by rw [lat_stop hx]; rfl, hx⟩
    · have h2 : lat (x :: cs) = x :: lat cs := by unfold lat; rw [List.takeWhile_cons, if_pos (decide_eq_true hx)]
      rw [h2] at h ⊢
      obtain ⟨c, rest, e, hc⟩ := lat_next (cs := cs) (fun q => h (by rw [q]))
      exact ⟨c, rest, by rw [List.cons_append, ← e], hc⟩
theorem cod1 {n : Nat} (h0 : 0 < n) (h1 : n < 1000000) : nar .byte (((((Int32.ofNat n) - (Int32.ofNat (2 * n)))).toUInt32 >>> ((31 : Int32) &&& 31).toUInt32).toInt32.toInt8.toInt32) = 1 := by
  have e1 := c_isub (Int32.ofNat n) (Int32.ofNat (2 * n))
  rw [i32_toInt (by omega), i32_toInt (by omega)] at e1
  have r := rng32 (Int32.ofNat n - Int32.ofNat (2 * n))
  have e2 := c_iushr (Int32.ofNat n - Int32.ofNat (2 * n)) 31 31 (by decide) (by omega)
  have e3 : (((Int32.ofNat n - Int32.ofNat (2 * n)).toUInt32 >>> ((31 : Int32) &&& 31).toUInt32).toInt32) = 1 := by
    apply Int32.toInt_inj.mp
    rw [e2, show (1 : Int32).toInt = 1 by decide]
    omega
  rw [e3]
  decide
/-- a UTF-16 String at s, its bytes at t, that spells cs -/
def StrU (Z : State) (h : Heap) (s t : Addr) (cs : List Int32) : Prop :=
  Exa Z h s "java/lang/String" ∧ Fld Z h s "java/lang/String" "value" "[B" (.ref t) ∧ Fld Z h s "java/lang/String" "coder" "B" (.int 1) ∧ ∃ kb, Arv Z h t kb .byte (Int32.ofNat (2 * cs.length)) (vU cs) (.int 0)
/-- a String of any chars, as String's own constructor lays it -/
def StrA (Z : State) (h : Heap) (s t : Addr) (cs : List Int32) : Prop := (lat cs = cs ∧ StrL Z h s t cs) ∨ (¬ lat cs = cs ∧ StrU Z h s t cs)
theorem StrA.exa {Z : State} {h : Heap} {s t : Addr} {cs : List Int32} (S : StrA Z h s t cs) : Exa Z h s "java/lang/String" := S.elim (fun q => q.2.1) (fun q => q.2.1)
theorem StrA.ext {Z : State} {h h' : Heap} {s t : Addr} {cs : List Int32} (S : StrA Z h s t cs) (E : Ext h h') : StrA Z h' s t cs := by
  rcases S with ⟨q, S⟩ | ⟨q, a, b, c, kb, d⟩
  · exact Or.inl ⟨q, S.ext E⟩
  · exact Or.inr ⟨q, a.ext E, b.ext E, c.ext E, kb, d.ext E⟩
theorem StrA.keep {Z : State} {h h' : Heap} {s t : Addr} {cs : List Int32} {ws : List Addr} (S : StrA Z h s t cs) (K : Keep h h' ws) (q1 : s ∉ ws) (q2 : t ∉ ws) : StrA Z h' s t cs := by
  rcases S with ⟨q, S⟩ | ⟨q, a, b, c, kb, d⟩
  · exact Or.inl ⟨q, S.keep K q1 q2⟩
  · exact Or.inr ⟨q, a.keep K, b.keep K q1, c.keep K q1, kb, d.keep K q2⟩
theorem StrA.wr {Z : State} {h h' : Heap} {s t a : Addr} {cs : List Int32} {sl : Nat} {v : Value} (S : StrA Z h s t cs) (W : Wr h h' a sl v) (q1 : s ≠ a) (q2 : t ≠ a) : StrA Z h' s t cs := by
  rcases S with ⟨q, S⟩ | ⟨q, x, b, c, kb, d⟩
  · exact Or.inl ⟨q, S.wr W q1 q2⟩
  · exact Or.inr ⟨q, x.wr W, b.other W (Or.inl q1), c.other W (Or.inl q1), kb, d.other W q2⟩
theorem StrA.lt {Z : State} {h : Heap} {s t : Addr} {cs : List Int32} (S : StrA Z h s t cs) : s < h.size := S.exa.lt
theorem StrA.ltT {Z : State} {h : Heap} {s t : Addr} {cs : List Int32} (S : StrA Z h s t cs) : t < h.size := by
  rcases S with ⟨q, S⟩ | ⟨q, a, b, c, kb, d⟩
  · exact S.ltT
  · exact d.lt
theorem StrL.any {Z : State} {h : Heap} {s t : Addr} {cs : List Int32} (S : StrL Z h s t cs) (q : lat cs = cs) : StrA Z h s t cs := Or.inl ⟨q, S⟩
/-! ## bytes tell the chars -/
theorem bL_inj {c d : Int32} (h0 : ¬ c < 0) (h1 : ¬ (255 : Int32) < c) (g0 : ¬ d < 0) (g1 : ¬ (255 : Int32) < d) (e : bL c = bL d) : c = d := by
  have h7 : (255 : Int32).toInt = 255 := by decide
  rw [Int32.lt_iff_toInt_lt, z32] at h0 g0
  rw [Int32.lt_iff_toInt_lt, h7] at h1 g1
  have b1 := c_i2b c
  have b2 := c_i2b d
  have e' : c.toInt8.toInt32.toInt = d.toInt8.toInt32.toInt := congrArg Int32.toInt e
  apply Int32.toInt_inj.mp
  omega
theorem vL_inj : ∀ {cs ds : List Int32}, (∀ c ∈ cs, ¬ c < 0 ∧ ¬ (255 : Int32) < c) → (∀ c ∈ ds, ¬ c < 0 ∧ ¬ (255 : Int32) < c) → cs.map bL = ds.map bL → cs = ds
  | [], [], _, _, _ => rfl
  | [], d :: ds, _, _, e => by cases e
  | c :: cs, [], _, _, e => by cases e
  | c :: cs, d :: ds, h, g, e => by
    simp only [List.map_cons, List.cons.injEq] at e
    have q1 := h c (List.mem_cons_self ..)
    have q2 := g d (List.mem_cons_self ..)
    rw [bL_inj q1.1 q1.2 q2.1 q2.2 e.1, vL_inj (fun x hx => h x (List.mem_cons_of_mem _ hx)) (fun x hx => g x (List.mem_cons_of_mem _ hx)) e.2]
theorem vL_vC (cs : List Int32) : vL cs = vC (cs.map bL) := by simp [vL, vC]
theorem vL_map (cs : List Int32) : vL cs = (cs.map bL).map Value.int := by simp [vL]
theorem Fld.fun1 {Z : State} {h : Heap} {a : Addr} {C n d : String} {v w : Value} (F : Fld Z h a C n d v) (G : Fld Z h a C n d w) : v = w := Classical.byContradiction fun q => Fld.ne F G q rfl
/-- one object, two readings: one text -/
theorem StrL.inj {Z : State} {h : Heap} {s t t' : Addr} {cs ds : List Int32} (S : StrL Z h s t cs) (S' : StrL Z h s t' ds) (h1 : cs.length < 1000000) (h2 : ds.length < 1000000) : cs.map bL = ds.map bL := by
  obtain ⟨-, v, -, kb, A⟩ := S
  obtain ⟨-, v', -, kb', A'⟩ := S'
  have e := Fld.fun1 v v'
  injection e with e
  subst e
  obtain ⟨c, Ar, -, sz, -, H, -⟩ := A
  obtain ⟨c', Ar', -, sz', -, H', -⟩ := A'
  cases Ar.1.symm.trans Ar'.1
  rw [sz] at sz'
  rw [i32_cl (by omega), i32_cl (by omega)] at sz'
  rw [i32_cl (by omega)] at sz
  apply List.ext_getElem
  · simpa using sz'
  · intro i hi hi'
    have hc : i < cs.length := by simpa using hi
    have hd : i < ds.length := by omega
    have q := (H i (by omega)).symm.trans (H' i (by omega))
    simp only [vL, List.getD_eq_getElem?_getD, List.getElem?_map] at q
    simp [hc, hd] at q
    simpa using q
end Jvm.Own
namespace Jvm.Own
open Sem ClassFile Op Lib Jvm.Stand Jvm.Free Jvm.LawKit Jvm.RoadKit
theorem lat_le (cs : List Int32) : (lat cs).length ≤ cs.length := (List.takeWhile_prefix _).length_le
theorem lat_full {cs : List Int32} (h : (lat cs).length = cs.length) : lat cs = cs := (List.takeWhile_prefix _).eq_of_length h
theorem lat_at {cs rest : List Int32} {c : Int32} (e : cs = lat cs ++ c :: rest) : cs[(lat cs).length]? = some c := by
  have := congrArg (fun l : List Int32 => l[(lat cs).length]?) e
  rw [List.getElem?_append_right (Nat.le_refl _), Nat.sub_self] at this
  exact this
end Jvm.Own
namespace Jvm.Pilot.@@N@@
open Jvm Jvm.ClassFile Sem Op Lib Jvm.Free Jvm.Stand Jvm.LawKit Jvm.RoadKit Jvm.Own Bundle Jvm.Pilot.@@N@@.Jvm.D
theorem dc_jdk_52_method_21_code_0 : decode jdk_52_method_21_code 0 = .ok (.iconst 0, 1) := by decide +kernel
theorem dc_jdk_52_method_21_code_1 : decode jdk_52_method_21_code 1 = .ok (.istore 5, 2) := by decide +kernel
theorem dc_jdk_52_method_21_code_3 : decode jdk_52_method_21_code 3 = .ok (.iload 5, 2) := by decide +kernel
theorem dc_jdk_52_method_21_code_5 : decode jdk_52_method_21_code 5 = .ok (.iload 4, 2) := by decide +kernel
theorem dc_jdk_52_method_21_code_7 : decode jdk_52_method_21_code 7 = .ok (.if_icmp .ge 37, 3) := by decide +kernel
theorem dc_jdk_52_method_21_code_44 : decode jdk_52_method_21_code 44 = .ok (.iload 4, 2) := by decide +kernel
theorem dc_jdk_52_method_21_code_46 : decode jdk_52_method_21_code 46 = .ok (.ireturn, 1) := by decide +kernel
theorem dc_jdk_52_method_21_code_10 : decode jdk_52_method_21_code 10 = .ok (.aload_n 0, 1) := by decide +kernel
theorem dc_jdk_52_method_21_code_11 : decode jdk_52_method_21_code 11 = .ok (.iload_n 1, 1) := by decide +kernel
theorem dc_jdk_52_method_21_code_12 : decode jdk_52_method_21_code 12 = .ok (.caload, 1) := by decide +kernel
theorem dc_jdk_52_method_21_code_13 : decode jdk_52_method_21_code 13 = .ok (.istore 6, 2) := by decide +kernel
theorem dc_jdk_52_method_21_code_15 : decode jdk_52_method_21_code 15 = .ok (.iload 6, 2) := by decide +kernel
theorem dc_jdk_52_method_21_code_17 : decode jdk_52_method_21_code 17 = .ok (.sipush 255, 3) := by decide +kernel
theorem dc_jdk_52_method_21_code_20 : decode jdk_52_method_21_code 20 = .ok (.if_icmp .le 6, 3) := by decide +kernel
theorem dc_jdk_52_method_21_code_26 : decode jdk_52_method_21_code 26 = .ok (.aload_n 2, 1) := by decide +kernel
theorem dc_jdk_52_method_21_code_27 : decode jdk_52_method_21_code 27 = .ok (.iload_n 3, 1) := by decide +kernel
theorem dc_jdk_52_method_21_code_28 : decode jdk_52_method_21_code 28 = .ok (.iload 6, 2) := by decide +kernel
theorem dc_jdk_52_method_21_code_30 : decode jdk_52_method_21_code 30 = .ok (.i2b, 1) := by decide +kernel
theorem dc_jdk_52_method_21_code_31 : decode jdk_52_method_21_code 31 = .ok (.bastore, 1) := by decide +kernel
theorem dc_jdk_52_method_21_code_32 : decode jdk_52_method_21_code 32 = .ok (.iinc 1 1, 3) := by decide +kernel
theorem dc_jdk_52_method_21_code_35 : decode jdk_52_method_21_code 35 = .ok (.iinc 3 1, 3) := by decide +kernel
theorem dc_jdk_52_method_21_code_38 : decode jdk_52_method_21_code 38 = .ok (.iinc 5 1, 3) := by decide +kernel
theorem dc_jdk_52_method_21_code_41 : decode jdk_52_method_21_code 41 = .ok (.goto (-38), 3) := by decide +kernel
theorem dc_jdk_52_method_21_code_23 : decode jdk_52_method_21_code 23 = .ok (.iload 5, 2) := by decide +kernel
theorem dc_jdk_52_method_21_code_25 : decode jdk_52_method_21_code 25 = .ok (.ireturn, 1) := by decide +kernel
theorem dc_jdk_52_method_3_code_0 : decode jdk_52_method_3_code 0 = .ok (.iload_n 0, 1) := by decide +kernel
theorem dc_jdk_52_method_3_code_1 : decode jdk_52_method_3_code 1 = .ok (.ifCond .ge 11, 3) := by decide +kernel
theorem dc_jdk_52_method_3_code_12 : decode jdk_52_method_3_code 12 = .ok (.iload_n 0, 1) := by decide +kernel
theorem dc_jdk_52_method_3_code_13 : decode jdk_52_method_3_code 13 = .ok (.ldc 20, 2) := by decide +kernel
theorem dc_jdk_52_method_3_code_15 : decode jdk_52_method_3_code 15 = .ok (.if_icmp .lt 40, 3) := by decide +kernel
theorem dc_jdk_52_method_3_code_55 : decode jdk_52_method_3_code 55 = .ok (.iload_n 0, 1) := by decide +kernel
theorem dc_jdk_52_method_3_code_56 : decode jdk_52_method_3_code 56 = .ok (.iconst 1, 1) := by decide +kernel
theorem dc_jdk_52_method_3_code_57 : decode jdk_52_method_3_code 57 = .ok (.ishl, 1) := by decide +kernel
theorem dc_jdk_52_method_3_code_58 : decode jdk_52_method_3_code 58 = .ok (.ireturn, 1) := by decide +kernel
theorem dc_jdk_52_method_2_code_0 : decode jdk_52_method_2_code 0 = .ok (.iload_n 0, 1) := by decide +kernel
theorem dc_jdk_52_method_2_code_1 : decode jdk_52_method_2_code 1 = .ok (.invokestatic 11, 3) := by decide +kernel
theorem dc_jdk_52_method_2_code_4 : decode jdk_52_method_2_code 4 = .ok (.newarray .byte, 2) := by decide +kernel
theorem dc_jdk_52_method_2_code_6 : decode jdk_52_method_2_code 6 = .ok (.areturn, 1) := by decide +kernel
theorem dc_jdk_52_method_4_code_0 : decode jdk_52_method_4_code 0 = .ok (.getstatic 44, 3) := by decide +kernel
theorem dc_jdk_52_method_4_code_3 : decode jdk_52_method_4_code 3 = .ok (.ifCond .ne 25, 3) := by decide +kernel
theorem dc_jdk_52_method_4_code_28 : decode jdk_52_method_4_code 28 = .ok (.iload_n 1, 1) := by decide +kernel
theorem dc_jdk_52_method_4_code_29 : decode jdk_52_method_4_code 29 = .ok (.iconst 1, 1) := by decide +kernel
theorem dc_jdk_52_method_4_code_30 : decode jdk_52_method_4_code 30 = .ok (.ishl, 1) := by decide +kernel
theorem dc_jdk_52_method_4_code_31 : decode jdk_52_method_4_code 31 = .ok (.istore_n 1, 1) := by decide +kernel
theorem dc_jdk_52_method_4_code_32 : decode jdk_52_method_4_code 32 = .ok (.aload_n 0, 1) := by decide +kernel
theorem dc_jdk_52_method_4_code_33 : decode jdk_52_method_4_code 33 = .ok (.iload_n 1, 1) := by decide +kernel
theorem dc_jdk_52_method_4_code_34 : decode jdk_52_method_4_code 34 = .ok (.iinc 1 1, 3) := by decide +kernel
theorem dc_jdk_52_method_4_code_37 : decode jdk_52_method_4_code 37 = .ok (.iload_n 2, 1) := by decide +kernel
theorem dc_jdk_52_method_4_code_38 : decode jdk_52_method_4_code 38 = .ok (.getstatic 59, 3) := by decide +kernel
theorem dc_jdk_52_method_4_code_41 : decode jdk_52_method_4_code 41 = .ok (.ishr, 1) := by decide +kernel
theorem dc_jdk_52_method_4_code_42 : decode jdk_52_method_4_code 42 = .ok (.i2b, 1) := by decide +kernel
theorem dc_jdk_52_method_4_code_43 : decode jdk_52_method_4_code 43 = .ok (.bastore, 1) := by decide +kernel
theorem dc_jdk_52_method_4_code_44 : decode jdk_52_method_4_code 44 = .ok (.aload_n 0, 1) := by decide +kernel
theorem dc_jdk_52_method_4_code_45 : decode jdk_52_method_4_code 45 = .ok (.iload_n 1, 1) := by decide +kernel
theorem dc_jdk_52_method_4_code_46 : decode jdk_52_method_4_code 46 = .ok (.iload_n 2, 1) := by decide +kernel
theorem dc_jdk_52_method_4_code_47 : decode jdk_52_method_4_code 47 = .ok (.getstatic 63, 3) := by decide +kernel
theorem dc_jdk_52_method_4_code_50 : decode jdk_52_method_4_code 50 = .ok (.ishr, 1) := by decide +kernel
theorem dc_jdk_52_method_4_code_51 : decode jdk_52_method_4_code 51 = .ok (.i2b, 1) := by decide +kernel
theorem dc_jdk_52_method_4_code_52 : decode jdk_52_method_4_code 52 = .ok (.bastore, 1) := by decide +kernel
theorem dc_jdk_52_method_4_code_53 : decode jdk_52_method_4_code 53 = .ok (.return_, 1) := by decide +kernel
theorem dc_jdk_52_method_14_code_0 : decode jdk_52_method_14_code 0 = .ok (.iload_n 2, 1) := by decide +kernel
theorem dc_jdk_52_method_14_code_1 : decode jdk_52_method_14_code 1 = .ok (.invokestatic 107, 3) := by decide +kernel
theorem dc_jdk_52_method_14_code_4 : decode jdk_52_method_14_code 4 = .ok (.astore_n 3, 1) := by decide +kernel
theorem dc_jdk_52_method_14_code_5 : decode jdk_52_method_14_code 5 = .ok (.iconst 0, 1) := by decide +kernel
theorem dc_jdk_52_method_14_code_6 : decode jdk_52_method_14_code 6 = .ok (.istore 4, 2) := by decide +kernel
theorem dc_jdk_52_method_14_code_8 : decode jdk_52_method_14_code 8 = .ok (.iload 4, 2) := by decide +kernel
theorem dc_jdk_52_method_14_code_10 : decode jdk_52_method_14_code 10 = .ok (.iload_n 2, 1) := by decide +kernel
theorem dc_jdk_52_method_14_code_11 : decode jdk_52_method_14_code 11 = .ok (.if_icmp .ge 21, 3) := by decide +kernel
theorem dc_jdk_52_method_14_code_32 : decode jdk_52_method_14_code 32 = .ok (.aload_n 3, 1) := by decide +kernel
theorem dc_jdk_52_method_14_code_33 : decode jdk_52_method_14_code 33 = .ok (.areturn, 1) := by decide +kernel
theorem dc_jdk_52_method_14_code_14 : decode jdk_52_method_14_code 14 = .ok (.aload_n 3, 1) := by decide +kernel
theorem dc_jdk_52_method_14_code_15 : decode jdk_52_method_14_code 15 = .ok (.iload 4, 2) := by decide +kernel
theorem dc_jdk_52_method_14_code_17 : decode jdk_52_method_14_code 17 = .ok (.aload_n 0, 1) := by decide +kernel
theorem dc_jdk_52_method_14_code_18 : decode jdk_52_method_14_code 18 = .ok (.iload_n 1, 1) := by decide +kernel
theorem dc_jdk_52_method_14_code_19 : decode jdk_52_method_14_code 19 = .ok (.caload, 1) := by decide +kernel
theorem dc_jdk_52_method_14_code_20 : decode jdk_52_method_14_code 20 = .ok (.invokestatic 111, 3) := by decide +kernel
theorem dc_jdk_52_method_14_code_23 : decode jdk_52_method_14_code 23 = .ok (.iinc 1 1, 3) := by decide +kernel
theorem dc_jdk_52_method_14_code_26 : decode jdk_52_method_14_code 26 = .ok (.iinc 4 1, 3) := by decide +kernel
theorem dc_jdk_52_method_14_code_29 : decode jdk_52_method_14_code 29 = .ok (.goto (-21), 3) := by decide +kernel
theorem dc_jdk_52_method_5_code_0 : decode jdk_52_method_5_code 0 = .ok (.getstatic 44, 3) := by decide +kernel
theorem dc_jdk_52_method_5_code_3 : decode jdk_52_method_5_code 3 = .ok (.ifCond .ne 25, 3) := by decide +kernel
theorem dc_jdk_52_method_5_code_28 : decode jdk_52_method_5_code 28 = .ok (.iload_n 1, 1) := by decide +kernel
theorem dc_jdk_52_method_5_code_29 : decode jdk_52_method_5_code 29 = .ok (.iconst 1, 1) := by decide +kernel
theorem dc_jdk_52_method_5_code_30 : decode jdk_52_method_5_code 30 = .ok (.ishl, 1) := by decide +kernel
theorem dc_jdk_52_method_5_code_31 : decode jdk_52_method_5_code 31 = .ok (.istore_n 1, 1) := by decide +kernel
theorem dc_jdk_52_method_5_code_32 : decode jdk_52_method_5_code 32 = .ok (.aload_n 0, 1) := by decide +kernel
theorem dc_jdk_52_method_5_code_33 : decode jdk_52_method_5_code 33 = .ok (.iload_n 1, 1) := by decide +kernel
theorem dc_jdk_52_method_5_code_34 : decode jdk_52_method_5_code 34 = .ok (.iinc 1 1, 3) := by decide +kernel
theorem dc_jdk_52_method_5_code_37 : decode jdk_52_method_5_code 37 = .ok (.baload, 1) := by decide +kernel
theorem dc_jdk_52_method_5_code_38 : decode jdk_52_method_5_code 38 = .ok (.sipush 255, 3) := by decide +kernel
theorem dc_jdk_52_method_5_code_41 : decode jdk_52_method_5_code 41 = .ok (.iand, 1) := by decide +kernel
theorem dc_jdk_52_method_5_code_42 : decode jdk_52_method_5_code 42 = .ok (.getstatic 59, 3) := by decide +kernel
theorem dc_jdk_52_method_5_code_45 : decode jdk_52_method_5_code 45 = .ok (.ishl, 1) := by decide +kernel
theorem dc_jdk_52_method_5_code_46 : decode jdk_52_method_5_code 46 = .ok (.aload_n 0, 1) := by decide +kernel
theorem dc_jdk_52_method_5_code_47 : decode jdk_52_method_5_code 47 = .ok (.iload_n 1, 1) := by decide +kernel
theorem dc_jdk_52_method_5_code_48 : decode jdk_52_method_5_code 48 = .ok (.baload, 1) := by decide +kernel
theorem dc_jdk_52_method_5_code_49 : decode jdk_52_method_5_code 49 = .ok (.sipush 255, 3) := by decide +kernel
theorem dc_jdk_52_method_5_code_52 : decode jdk_52_method_5_code 52 = .ok (.iand, 1) := by decide +kernel
theorem dc_jdk_52_method_5_code_53 : decode jdk_52_method_5_code 53 = .ok (.getstatic 63, 3) := by decide +kernel
theorem dc_jdk_52_method_5_code_56 : decode jdk_52_method_5_code 56 = .ok (.ishl, 1) := by decide +kernel
theorem dc_jdk_52_method_5_code_57 : decode jdk_52_method_5_code 57 = .ok (.ior, 1) := by decide +kernel
theorem dc_jdk_52_method_5_code_58 : decode jdk_52_method_5_code 58 = .ok (.i2c, 1) := by decide +kernel
theorem dc_jdk_52_method_5_code_59 : decode jdk_52_method_5_code 59 = .ok (.ireturn, 1) := by decide +kernel
theorem dc_jdk_52_method_15_code_0 : decode jdk_52_method_15_code 0 = .ok (.iload_n 1, 1) := by decide +kernel
theorem dc_jdk_52_method_15_code_1 : decode jdk_52_method_15_code 1 = .ok (.aload_n 0, 1) := by decide +kernel
theorem dc_jdk_52_method_15_code_2 : decode jdk_52_method_15_code 2 = .ok (.arraylength, 1) := by decide +kernel
theorem dc_jdk_52_method_15_code_3 : decode jdk_52_method_15_code 3 = .ok (.isub, 1) := by decide +kernel
theorem dc_jdk_52_method_15_code_4 : decode jdk_52_method_15_code 4 = .ok (.bipush 31, 2) := by decide +kernel
theorem dc_jdk_52_method_15_code_6 : decode jdk_52_method_15_code 6 = .ok (.iushr, 1) := by decide +kernel
theorem dc_jdk_52_method_15_code_7 : decode jdk_52_method_15_code 7 = .ok (.i2b, 1) := by decide +kernel
theorem dc_jdk_52_method_15_code_8 : decode jdk_52_method_15_code 8 = .ok (.ireturn, 1) := by decide +kernel
theorem dc_jdk_52_method_16_code_0 : decode jdk_52_method_16_code 0 = .ok (.iload_n 2, 1) := by decide +kernel
theorem dc_jdk_52_method_16_code_1 : decode jdk_52_method_16_code 1 = .ok (.newarray .byte, 2) := by decide +kernel
theorem dc_jdk_52_method_16_code_3 : decode jdk_52_method_16_code 3 = .ok (.astore_n 3, 1) := by decide +kernel
theorem dc_jdk_52_method_16_code_4 : decode jdk_52_method_16_code 4 = .ok (.aload_n 0, 1) := by decide +kernel
theorem dc_jdk_52_method_16_code_5 : decode jdk_52_method_16_code 5 = .ok (.iload_n 1, 1) := by decide +kernel
theorem dc_jdk_52_method_16_code_6 : decode jdk_52_method_16_code 6 = .ok (.aload_n 3, 1) := by decide +kernel
theorem dc_jdk_52_method_16_code_7 : decode jdk_52_method_16_code 7 = .ok (.iconst 0, 1) := by decide +kernel
theorem dc_jdk_52_method_16_code_8 : decode jdk_52_method_16_code 8 = .ok (.iload_n 2, 1) := by decide +kernel
theorem dc_jdk_52_method_16_code_9 : decode jdk_52_method_16_code 9 = .ok (.invokestatic 115, 3) := by decide +kernel
theorem dc_jdk_52_method_16_code_12 : decode jdk_52_method_16_code 12 = .ok (.istore 4, 2) := by decide +kernel
theorem dc_jdk_52_method_16_code_14 : decode jdk_52_method_16_code 14 = .ok (.iload 4, 2) := by decide +kernel
theorem dc_jdk_52_method_16_code_16 : decode jdk_52_method_16_code 16 = .ok (.iload_n 2, 1) := by decide +kernel
theorem dc_jdk_52_method_16_code_17 : decode jdk_52_method_16_code 17 = .ok (.if_icmp .eq 40, 3) := by decide +kernel
theorem dc_jdk_52_method_16_code_57 : decode jdk_52_method_16_code 57 = .ok (.aload_n 3, 1) := by decide +kernel
theorem dc_jdk_52_method_16_code_58 : decode jdk_52_method_16_code 58 = .ok (.areturn, 1) := by decide +kernel
theorem dc_jdk_52_method_16_code_20 : decode jdk_52_method_16_code 20 = .ok (.aload_n 0, 1) := by decide +kernel
theorem dc_jdk_52_method_16_code_21 : decode jdk_52_method_16_code 21 = .ok (.iload_n 1, 1) := by decide +kernel
theorem dc_jdk_52_method_16_code_22 : decode jdk_52_method_16_code 22 = .ok (.iload_n 2, 1) := by decide +kernel
theorem dc_jdk_52_method_16_code_23 : decode jdk_52_method_16_code 23 = .ok (.invokestatic 119, 3) := by decide +kernel
theorem dc_jdk_52_method_16_code_26 : decode jdk_52_method_16_code 26 = .ok (.astore 5, 2) := by decide +kernel
theorem dc_jdk_52_method_16_code_28 : decode jdk_52_method_16_code 28 = .ok (.aload 5, 2) := by decide +kernel
theorem dc_jdk_52_method_16_code_30 : decode jdk_52_method_16_code 30 = .ok (.iload 4, 2) := by decide +kernel
theorem dc_jdk_52_method_16_code_32 : decode jdk_52_method_16_code 32 = .ok (.invokestatic 71, 3) := by decide +kernel
theorem dc_jdk_52_method_16_code_35 : decode jdk_52_method_16_code 35 = .ok (.sipush 255, 3) := by decide +kernel
theorem dc_jdk_52_method_16_code_38 : decode jdk_52_method_16_code 38 = .ok (.if_icmp .gt 16, 3) := by decide +kernel
theorem dc_jdk_52_method_16_code_54 : decode jdk_52_method_16_code 54 = .ok (.aload 5, 2) := by decide +kernel
theorem dc_jdk_52_method_16_code_56 : decode jdk_52_method_16_code 56 = .ok (.areturn, 1) := by decide +kernel
theorem dc_jdk_42_method_149_code_0 : decode jdk_42_method_149_code 0 = .ok (.aload_n 0, 1) := by decide +kernel
theorem dc_jdk_42_method_149_code_1 : decode jdk_42_method_149_code 1 = .ok (.invokespecial 1, 3) := by decide +kernel
theorem dc_jdk_42_method_149_code_4 : decode jdk_42_method_149_code 4 = .ok (.iload_n 3, 1) := by decide +kernel
theorem dc_jdk_42_method_149_code_5 : decode jdk_42_method_149_code 5 = .ok (.ifCond .ne 22, 3) := by decide +kernel
theorem dc_jdk_42_method_149_code_27 : decode jdk_42_method_149_code 27 = .ok (.getstatic 38, 3) := by decide +kernel
theorem dc_jdk_42_method_149_code_30 : decode jdk_42_method_149_code 30 = .ok (.ifCond .eq 28, 3) := by decide +kernel
theorem dc_jdk_42_method_149_code_33 : decode jdk_42_method_149_code 33 = .ok (.aload_n 1, 1) := by decide +kernel
theorem dc_jdk_42_method_149_code_34 : decode jdk_42_method_149_code 34 = .ok (.iload_n 2, 1) := by decide +kernel
theorem dc_jdk_42_method_149_code_35 : decode jdk_42_method_149_code 35 = .ok (.iload_n 3, 1) := by decide +kernel
theorem dc_jdk_42_method_149_code_36 : decode jdk_42_method_149_code 36 = .ok (.invokestatic 177, 3) := by decide +kernel
theorem dc_jdk_42_method_149_code_39 : decode jdk_42_method_149_code 39 = .ok (.astore 5, 2) := by decide +kernel
theorem dc_jdk_42_method_149_code_41 : decode jdk_42_method_149_code 41 = .ok (.aload_n 0, 1) := by decide +kernel
theorem dc_jdk_42_method_149_code_42 : decode jdk_42_method_149_code 42 = .ok (.aload 5, 2) := by decide +kernel
theorem dc_jdk_42_method_149_code_44 : decode jdk_42_method_149_code 44 = .ok (.iload_n 3, 1) := by decide +kernel
theorem dc_jdk_42_method_149_code_45 : decode jdk_42_method_149_code 45 = .ok (.invokestatic 47, 3) := by decide +kernel
theorem dc_jdk_42_method_149_code_48 : decode jdk_42_method_149_code 48 = .ok (.putfield 15, 3) := by decide +kernel
theorem dc_jdk_42_method_149_code_51 : decode jdk_42_method_149_code 51 = .ok (.aload_n 0, 1) := by decide +kernel
theorem dc_jdk_42_method_149_code_52 : decode jdk_42_method_149_code 52 = .ok (.aload 5, 2) := by decide +kernel
theorem dc_jdk_42_method_149_code_54 : decode jdk_42_method_149_code 54 = .ok (.putfield 9, 3) := by decide +kernel
theorem dc_jdk_42_method_149_code_57 : decode jdk_42_method_149_code 57 = .ok (.return_, 1) := by decide +kernel
theorem dc_jdk_42_method_3_code_0 : decode jdk_42_method_3_code 0 = .ok (.aload_n 0, 1) := by decide +kernel
theorem dc_jdk_42_method_3_code_1 : decode jdk_42_method_3_code 1 = .ok (.aload_n 1, 1) := by decide +kernel
theorem dc_jdk_42_method_3_code_2 : decode jdk_42_method_3_code 2 = .ok (.iconst 0, 1) := by decide +kernel
theorem dc_jdk_42_method_3_code_3 : decode jdk_42_method_3_code 3 = .ok (.aload_n 1, 1) := by decide +kernel
theorem dc_jdk_42_method_3_code_4 : decode jdk_42_method_3_code 4 = .ok (.arraylength, 1) := by decide +kernel
theorem dc_jdk_42_method_3_code_5 : decode jdk_42_method_3_code 5 = .ok (.aconst_null, 1) := by decide +kernel
theorem dc_jdk_42_method_3_code_6 : decode jdk_42_method_3_code 6 = .ok (.invokespecial 27, 3) := by decide +kernel
theorem dc_jdk_42_method_3_code_9 : decode jdk_42_method_3_code 9 = .ok (.return_, 1) := by decide +kernel
theorem dc_jdk_43_method_13_code_0 : decode jdk_43_method_13_code 0 = .ok (.aload_n 0, 1) := by decide +kernel
theorem dc_jdk_43_method_13_code_1 : decode jdk_43_method_13_code 1 = .ok (.arraylength, 1) := by decide +kernel
theorem dc_jdk_43_method_13_code_2 : decode jdk_43_method_13_code 2 = .ok (.aload_n 1, 1) := by decide +kernel
theorem dc_jdk_43_method_13_code_3 : decode jdk_43_method_13_code 3 = .ok (.arraylength, 1) := by decide +kernel
theorem dc_jdk_43_method_13_code_4 : decode jdk_43_method_13_code 4 = .ok (.if_icmp .ne 30, 3) := by decide +kernel
theorem dc_jdk_43_method_13_code_34 : decode jdk_43_method_13_code 34 = .ok (.iconst 0, 1) := by decide +kernel
theorem dc_jdk_43_method_13_code_35 : decode jdk_43_method_13_code 35 = .ok (.ireturn, 1) := by decide +kernel
theorem dc_jdk_43_method_13_code_7 : decode jdk_43_method_13_code 7 = .ok (.iconst 0, 1) := by decide +kernel
theorem dc_jdk_43_method_13_code_8 : decode jdk_43_method_13_code 8 = .ok (.istore_n 2, 1) := by decide +kernel
theorem dc_jdk_43_method_13_code_9 : decode jdk_43_method_13_code 9 = .ok (.iload_n 2, 1) := by decide +kernel
theorem dc_jdk_43_method_13_code_10 : decode jdk_43_method_13_code 10 = .ok (.aload_n 0, 1) := by decide +kernel
theorem dc_jdk_43_method_13_code_11 : decode jdk_43_method_13_code 11 = .ok (.arraylength, 1) := by decide +kernel
theorem dc_jdk_43_method_13_code_12 : decode jdk_43_method_13_code 12 = .ok (.if_icmp .ge 20, 3) := by decide +kernel
theorem dc_jdk_43_method_13_code_32 : decode jdk_43_method_13_code 32 = .ok (.iconst 1, 1) := by decide +kernel
theorem dc_jdk_43_method_13_code_33 : decode jdk_43_method_13_code 33 = .ok (.ireturn, 1) := by decide +kernel
theorem dc_jdk_43_method_13_code_15 : decode jdk_43_method_13_code 15 = .ok (.aload_n 0, 1) := by decide +kernel
theorem dc_jdk_43_method_13_code_16 : decode jdk_43_method_13_code 16 = .ok (.iload_n 2, 1) := by decide +kernel
theorem dc_jdk_43_method_13_code_17 : decode jdk_43_method_13_code 17 = .ok (.baload, 1) := by decide +kernel
theorem dc_jdk_43_method_13_code_18 : decode jdk_43_method_13_code 18 = .ok (.aload_n 1, 1) := by decide +kernel
theorem dc_jdk_43_method_13_code_19 : decode jdk_43_method_13_code 19 = .ok (.iload_n 2, 1) := by decide +kernel
theorem dc_jdk_43_method_13_code_20 : decode jdk_43_method_13_code 20 = .ok (.baload, 1) := by decide +kernel
theorem dc_jdk_43_method_13_code_21 : decode jdk_43_method_13_code 21 = .ok (.if_icmp .eq 5, 3) := by decide +kernel
theorem dc_jdk_43_method_13_code_26 : decode jdk_43_method_13_code 26 = .ok (.iinc 2 1, 3) := by decide +kernel
theorem dc_jdk_43_method_13_code_29 : decode jdk_43_method_13_code 29 = .ok (.goto (-20), 3) := by decide +kernel
theorem dc_jdk_43_method_13_code_24 : decode jdk_43_method_13_code 24 = .ok (.iconst 0, 1) := by decide +kernel
theorem dc_jdk_43_method_13_code_25 : decode jdk_43_method_13_code 25 = .ok (.ireturn, 1) := by decide +kernel
theorem dc_jdk_42_method_66_code_0 : decode jdk_42_method_66_code 0 = .ok (.aload_n 0, 1) := by decide +kernel
theorem dc_jdk_42_method_66_code_1 : decode jdk_42_method_66_code 1 = .ok (.aload_n 1, 1) := by decide +kernel
theorem dc_jdk_42_method_66_code_2 : decode jdk_42_method_66_code 2 = .ok (.if_acmp .ne 5, 3) := by decide +kernel
theorem dc_jdk_42_method_66_code_5 : decode jdk_42_method_66_code 5 = .ok (.iconst 1, 1) := by decide +kernel
theorem dc_jdk_42_method_66_code_6 : decode jdk_42_method_66_code 6 = .ok (.ireturn, 1) := by decide +kernel
theorem dc_jdk_42_method_66_code_7 : decode jdk_42_method_66_code 7 = .ok (.aload_n 1, 1) := by decide +kernel
theorem dc_jdk_42_method_66_code_8 : decode jdk_42_method_66_code 8 = .ok (.instanceof 10, 3) := by decide +kernel
theorem dc_jdk_42_method_66_code_11 : decode jdk_42_method_66_code 11 = .ok (.ifCond .eq 43, 3) := by decide +kernel
theorem dc_jdk_42_method_66_code_14 : decode jdk_42_method_66_code 14 = .ok (.aload_n 1, 1) := by decide +kernel
theorem dc_jdk_42_method_66_code_15 : decode jdk_42_method_66_code 15 = .ok (.checkcast 10, 3) := by decide +kernel
theorem dc_jdk_42_method_66_code_18 : decode jdk_42_method_66_code 18 = .ok (.astore_n 2, 1) := by decide +kernel
theorem dc_jdk_42_method_66_code_19 : decode jdk_42_method_66_code 19 = .ok (.getstatic 38, 3) := by decide +kernel
theorem dc_jdk_42_method_66_code_22 : decode jdk_42_method_66_code 22 = .ok (.ifCond .eq 14, 3) := by decide +kernel
theorem dc_jdk_42_method_66_code_25 : decode jdk_42_method_66_code 25 = .ok (.aload_n 0, 1) := by decide +kernel
theorem dc_jdk_42_method_66_code_26 : decode jdk_42_method_66_code 26 = .ok (.getfield 15, 3) := by decide +kernel
theorem dc_jdk_42_method_66_code_29 : decode jdk_42_method_66_code 29 = .ok (.aload_n 2, 1) := by decide +kernel
theorem dc_jdk_42_method_66_code_30 : decode jdk_42_method_66_code 30 = .ok (.getfield 15, 3) := by decide +kernel
theorem dc_jdk_42_method_66_code_33 : decode jdk_42_method_66_code 33 = .ok (.if_icmp .ne 21, 3) := by decide +kernel
theorem dc_jdk_42_method_66_code_36 : decode jdk_42_method_66_code 36 = .ok (.aload_n 0, 1) := by decide +kernel
theorem dc_jdk_42_method_66_code_37 : decode jdk_42_method_66_code 37 = .ok (.getfield 9, 3) := by decide +kernel
theorem dc_jdk_42_method_66_code_40 : decode jdk_42_method_66_code 40 = .ok (.aload_n 2, 1) := by decide +kernel
theorem dc_jdk_42_method_66_code_41 : decode jdk_42_method_66_code 41 = .ok (.getfield 9, 3) := by decide +kernel
theorem dc_jdk_42_method_66_code_44 : decode jdk_42_method_66_code 44 = .ok (.invokestatic 541, 3) := by decide +kernel
theorem dc_jdk_42_method_66_code_47 : decode jdk_42_method_66_code 47 = .ok (.ifCond .eq 7, 3) := by decide +kernel
theorem dc_jdk_42_method_66_code_54 : decode jdk_42_method_66_code 54 = .ok (.iconst 0, 1) := by decide +kernel
theorem dc_jdk_42_method_66_code_55 : decode jdk_42_method_66_code 55 = .ok (.ireturn, 1) := by decide +kernel
theorem dc_jdk_42_method_66_code_50 : decode jdk_42_method_66_code 50 = .ok (.iconst 1, 1) := by decide +kernel
theorem dc_jdk_42_method_66_code_51 : decode jdk_42_method_66_code 51 = .ok (.goto 4, 3) := by decide +kernel
theorem dc_jdk_42_method_149_code_8 : decode jdk_42_method_149_code 8 = .ok (.aload_n 0, 1) := by decide +kernel
theorem dc_jdk_42_method_149_code_9 : decode jdk_42_method_149_code 9 = .ok (.ldc 7, 2) := by decide +kernel
theorem dc_jdk_42_method_149_code_11 : decode jdk_42_method_149_code 11 = .ok (.getfield 9, 3) := by decide +kernel
theorem dc_jdk_42_method_149_code_14 : decode jdk_42_method_149_code 14 = .ok (.putfield 9, 3) := by decide +kernel
theorem dc_jdk_42_method_149_code_17 : decode jdk_42_method_149_code 17 = .ok (.aload_n 0, 1) := by decide +kernel
theorem dc_jdk_42_method_149_code_18 : decode jdk_42_method_149_code 18 = .ok (.ldc 7, 2) := by decide +kernel
theorem dc_jdk_42_method_149_code_20 : decode jdk_42_method_149_code 20 = .ok (.getfield 15, 3) := by decide +kernel
theorem dc_jdk_42_method_149_code_23 : decode jdk_42_method_149_code 23 = .ok (.putfield 15, 3) := by decide +kernel
theorem dc_jdk_42_method_149_code_26 : decode jdk_42_method_149_code 26 = .ok (.return_, 1) := by decide +kernel
theorem dc_method_2_code_0 : decode method_2_code 0 = .ok (.iload_n 3, 1) := by decide +kernel
theorem dc_method_2_code_1 : decode method_2_code 1 = .ok (.lload_n 0, 1) := by decide +kernel
theorem dc_method_2_code_2 : decode method_2_code 2 = .ok (.bipush 16, 2) := by decide +kernel
theorem dc_method_2_code_4 : decode method_2_code 4 = .ok (.iload_n 2, 1) := by decide +kernel
theorem dc_method_2_code_5 : decode method_2_code 5 = .ok (.imul, 1) := by decide +kernel
theorem dc_method_2_code_6 : decode method_2_code 6 = .ok (.lushr, 1) := by decide +kernel
theorem dc_method_2_code_7 : decode method_2_code 7 = .ok (.ldc2_w 7, 3) := by decide +kernel
theorem dc_method_2_code_10 : decode method_2_code 10 = .ok (.land, 1) := by decide +kernel
theorem dc_method_2_code_11 : decode method_2_code 11 = .ok (.l2i, 1) := by decide +kernel
theorem dc_method_2_code_12 : decode method_2_code 12 = .ok (.iadd, 1) := by decide +kernel
theorem dc_method_2_code_13 : decode method_2_code 13 = .ok (.i2c, 1) := by decide +kernel
theorem dc_method_2_code_14 : decode method_2_code 14 = .ok (.ireturn, 1) := by decide +kernel
theorem dc_prog_9_method_4_code_0 : decode prog_9_method_4_code 0 = .ok (.ldc 25, 2) := by decide +kernel
theorem dc_prog_9_method_4_code_2 : decode prog_9_method_4_code 2 = .ok (.aload_n 0, 1) := by decide +kernel
theorem dc_prog_9_method_4_code_3 : decode prog_9_method_4_code 3 = .ok (.invokevirtual 49, 3) := by decide +kernel
theorem dc_prog_9_method_4_code_6 : decode prog_9_method_4_code 6 = .ok (.ifCond .ne 7, 3) := by decide +kernel
theorem dc_prog_9_method_4_code_13 : decode prog_9_method_4_code 13 = .ok (.iconst 0, 1) := by decide +kernel
theorem dc_prog_9_method_4_code_14 : decode prog_9_method_4_code 14 = .ok (.ireturn, 1) := by decide +kernel
theorem dc_prog_9_method_4_code_9 : decode prog_9_method_4_code 9 = .ok (.iconst 1, 1) := by decide +kernel
theorem dc_prog_9_method_4_code_10 : decode prog_9_method_4_code 10 = .ok (.goto 4, 3) := by decide +kernel
theorem pd_0 : parseMethodDescriptor "(I)I" = some ⟨[.int], some .int⟩ := by decide +kernel
theorem pd_1 : parseMethodDescriptor "(I)[B" = some ⟨[.int], some (.array .byte)⟩ := by decide +kernel
theorem pd_2 : parseMethodDescriptor "([BII)V" = some ⟨[(.array .byte), .int, .int], none⟩ := by decide +kernel
theorem pd_3 : parseMethodDescriptor "([CI[BII)I" = some ⟨[(.array .char), .int, (.array .byte), .int, .int], some .int⟩ := by decide +kernel
theorem pd_4 : parseMethodDescriptor "([CII)[B" = some ⟨[(.array .char), .int, .int], some (.array .byte)⟩ := by decide +kernel
theorem pd_5 : parseMethodDescriptor "([BI)C" = some ⟨[(.array .byte), .int], some .char⟩ := by decide +kernel
theorem pd_6 : parseMethodDescriptor "([BI)B" = some ⟨[(.array .byte), .int], some .byte⟩ := by decide +kernel
theorem pd_7 : parseMethodDescriptor "([CIILjava/lang/Void;)V" = some ⟨[(.array .char), .int, .int, (.object "java/lang/Void")], none⟩ := by decide +kernel
theorem pd_8 : parseMethodDescriptor "([B[B)Z" = some ⟨[(.array .byte), (.array .byte)], some .boolean⟩ := by decide +kernel
theorem pd_9 : parseMethodDescriptor "(Ljava/lang/Object;)Z" = some ⟨[(.object "java/lang/Object")], some .boolean⟩ := by decide +kernel
theorem pd_10 : parseMethodDescriptor "(JIC)C" = some ⟨[.long, .int, .char], some .char⟩ := by decide +kernel
theorem pd_11 : parseMethodDescriptor "([C)V" = some ⟨[(.array .char)], none⟩ := by decide +kernel
theorem pd_12 : parseMethodDescriptor "(Ljava/lang/String;)Z" = some ⟨[(.object "java/lang/String")], some .boolean⟩ := by decide +kernel

def sigL : List Int32 := [115, 105, 103, 110, 97, 116, 117, 114, 101]
theorem own_mod (x d : Int32) (D : Int) (hd : d.toInt = D) (hD : 0 < D) : 0 ≤ ((x &&& 2147483647) % d).toInt ∧ ((x &&& 2147483647) % d).toInt < D := by
  have h := c_and x 2147483647 (by decide)
  have q := (c_irem (x &&& 2147483647) d D hd).1 h.1
  rw [q]
  exact ⟨Int.emod_nonneg _ (by omega), Int.emod_lt_of_pos _ hD⟩
theorem own_lt11 {z : Int32} (h : 0 ≤ z.toInt ∧ z.toInt < 11) : z = 0 ∨ z = 1 ∨ z = 2 ∨ z = 3 ∨ z = 4 ∨ z = 5 ∨ z = 6 ∨ z = 7 ∨ z = 8 ∨ z = 9 ∨ z = 10 := by
  have e : z.toInt = 0 ∨ z.toInt = 1 ∨ z.toInt = 2 ∨ z.toInt = 3 ∨ z.toInt = 4 ∨ z.toInt = 5 ∨ z.toInt = 6 ∨ z.toInt = 7 ∨ z.toInt = 8 ∨ z.toInt = 9 ∨ z.toInt = 10 := by omega
  rcases e with e | e | e | e | e | e | e | e | e | e | e
  · exact Or.inl (Int32.toInt_inj.mp e)
  · exact Or.inr (Or.inl (Int32.toInt_inj.mp e))
  · exact Or.inr (Or.inr (Or.inl (Int32.toInt_inj.mp e)))
  · exact Or.inr (Or.inr (Or.inr (Or.inl (Int32.toInt_inj.mp e))))
  · exact Or.inr (Or.inr (Or.inr (Or.inr (Or.inl (Int32.toInt_inj.mp e)))))
  · exact Or.inr (Or.inr (Or.inr (Or.inr (Or.inr (Or.inl (Int32.toInt_inj.mp e))))))
  · exact Or.inr (Or.inr (Or.inr (Or.inr (Or.inr (Or.inr (Or.inl (Int32.toInt_inj.mp e)))))))
  · exact Or.inr (Or.inr (Or.inr (Or.inr (Or.inr (Or.inr (Or.inr (Or.inl (Int32.toInt_inj.mp e))))))))
  · exact Or.inr (Or.inr (Or.inr (Or.inr (Or.inr (Or.inr (Or.inr (Or.inr (Or.inl (Int32.toInt_inj.mp e)))))))))
  · exact Or.inr (Or.inr (Or.inr (Or.inr (Or.inr (Or.inr (Or.inr (Or.inr (Or.inr (Or.inl (Int32.toInt_inj.mp e))))))))))
  · exact Or.inr (Or.inr (Or.inr (Or.inr (Or.inr (Or.inr (Or.inr (Or.inr (Or.inr (Or.inr ((Int32.toInt_inj.mp e)))))))))))
theorem own_sig : ∀ x ∈ sigL, ¬ x < 0 ∧ ¬ (255 : Int32) < x := by decide

set_option maxRecDepth 65536 in
set_option maxHeartbeats 40000000 in
theorem st_cmp5 {l : Launch} {Z : State} {a0 : Array Value} (hw : ∀ d ∈ tables_1, d.before a0 Z = true) (a b : Addr) (ka kb : ClassId) (cs : List Int32) (d : Value) (h0 : Heap) (A1 : Arv Z h0 a ka .char (Int32.ofNat cs.length) (vC cs) d) (B1 : Arv Z h0 b kb .byte (Int32.ofNat cs.length) [] (.int 0)) (hab : a ≠ b) (gb : Z.heap.size ≤ b) (hn : cs.length ≤ 4000) :
    Met l Z (⟨"java/lang/StringUTF16", "compress", "([CI[BII)I"⟩ : MethodName) jdk_52_method_21_code 7 (some .int) false [] ({ frames := 0, cells := 0, slots := 0, locals := 0 } : Room) #[(.ref a), (.int (0 : Int32)), (.ref b), (.int (0 : Int32)), (.int (Int32.ofNat cs.length))] h0 (false, [], []) (fun v h J => v = some (.int (Int32.ofNat (lat cs).length)) ∧ Keep h0 h [b] ∧ Arv Z h b kb .byte (Int32.ofNat cs.length) (vL (lat cs)) (.int 0)) := by
  refine Met.of_goes (Ls := #[.val (.ref a), .val (.int (0 : Int32)), .val (.ref b), .val (.int (0 : Int32)), .val (.int (Int32.ofNat cs.length)), .unset, .unset]) (by first | exact plainFor_of_name (by first | (simp [plainName, overriddenIn]; done) | decide +kernel) | decide +kernel) (fun m => by first | (simp [entryFrame, mkF, argsToLocals, Value.category]; done) | rfl) rfl (fun G hGl => ?_)
  subst hGl
  refine Wlk.iconst (pc' := 1) (v := (0 : Int32)) dc_jdk_52_method_21_code_0 rfl rfl ?_
  refine Wlk.istore (pc' := 3) (Ls' := #[.val (.ref a), .val (.int (0 : Int32)), .val (.ref b), .val (.int (0 : Int32)), .val (.int (Int32.ofNat cs.length)), .val (.int (0 : Int32)), .unset]) dc_jdk_52_method_21_code_1 rfl rfl rfl ?_
  have loop : ∀ (rest pre : List Int32) (h : Heap) (o6 : Slot), One o6 → cs = pre ++ rest → (∀ c ∈ pre, ¬ (255 : Int32) < c) → Keep h0 h [b] → Arv Z h b kb .byte (Int32.ofNat cs.length) (vL pre) (.int 0) → Wlk G ({ frames := 0, cells := 0, slots := 0, locals := 0 } : Room) Z (⟨"java/lang/StringUTF16", "compress", "([CI[BII)I"⟩ : MethodName) jdk_52_method_21_code (some .int) false (false, [], []) (fun v h J => v = some (.int (Int32.ofNat (lat cs).length)) ∧ Keep h0 h [b] ∧ Arv Z h b kb .byte (Int32.ofNat cs.length) (vL (lat cs)) (.int 0)) h 0 0 3 #[.val (.ref a), .val (.int (Int32.ofNat pre.length)), .val (.ref b), .val (.int (Int32.ofNat pre.length)), .val (.int (Int32.ofNat cs.length)), .val (.int (Int32.ofNat pre.length)), o6] [] := by
    intro rest
    induction rest with
    | nil =>
      intro pre h o6 ho hcs hp K B
      rw [List.append_nil] at hcs
      subst hcs
      refine Wlk.iload (pc' := 5) (v := (Int32.ofNat cs.length)) dc_jdk_52_method_21_code_3 rfl rfl ?_
      refine Wlk.iload (pc' := 7) (v := (Int32.ofNat cs.length)) dc_jdk_52_method_21_code_5 rfl rfl ?_
      refine Wlk.icT (pc' := 44) dc_jdk_52_method_21_code_7 (by decide) (by decide) (show ¬ ((Int32.ofNat cs.length) < (Int32.ofNat cs.length)) from (fun q => absurd ((i32_lt (by omega) (by omega)).mp q) (Nat.lt_irrefl _))) ?_
      refine Wlk.iload (pc' := 46) (v := (Int32.ofNat cs.length)) dc_jdk_52_method_21_code_44 rfl rfl ?_
      refine Wlk.ireturnI dc_jdk_52_method_21_code_46 rfl (by decide) (by decide) ?_
      exact ⟨by rw [lat_all hp], K, by rw [lat_all hp]; exact B⟩
    | cons c rest ih =>
      intro pre h o6 ho hcs hp K B
      have hl : cs.length = pre.length + (rest.length + 1) := by rw [hcs]; simp
      have A := A1.keep K (ninS hab nin0)
      have B2 := B.pad (pad_rep _ _ 1)
      refine Wlk.iload (pc' := 5) (v := (Int32.ofNat pre.length)) dc_jdk_52_method_21_code_3 rfl rfl ?_
      refine Wlk.iload (pc' := 7) (v := (Int32.ofNat cs.length)) dc_jdk_52_method_21_code_5 rfl rfl ?_
      refine Wlk.icF (pc' := 10) dc_jdk_52_method_21_code_7 (show (Int32.ofNat pre.length) < (Int32.ofNat cs.length) from ((i32_lt (by omega) (by omega)).mpr (by omega))) rfl ?_
      refine Wlk.aloadN (pc' := 11) (v := (.ref a)) dc_jdk_52_method_21_code_10 rfl rfl rfl ?_
      refine Wlk.iloadN (pc' := 12) (v := (Int32.ofNat pre.length)) dc_jdk_52_method_21_code_11 rfl rfl ?_
      refine Wlk.caload (pc' := 13) (v := (.int c)) dc_jdk_52_method_21_code_12 A ⟨i32_nn (by omega), (i32_lt (by omega) (by omega)).mpr (by omega)⟩ (by rw [i32_cl (by omega), hcs]; simp [vC]) rfl ?_
      refine Wlk.istore (pc' := 15) (Ls' := #[.val (.ref a), .val (.int (Int32.ofNat pre.length)), .val (.ref b), .val (.int (Int32.ofNat pre.length)), .val (.int (Int32.ofNat cs.length)), .val (.int (Int32.ofNat pre.length)), .val (.int c)]) dc_jdk_52_method_21_code_13 (XS.store1 (o := o6) rfl ho rfl) rfl rfl ?_
      refine Wlk.iload (pc' := 17) (v := c) dc_jdk_52_method_21_code_15 rfl rfl ?_
      refine Wlk.sipush (pc' := 20) (v := (255 : Int32)) dc_jdk_52_method_21_code_17 (by decide) rfl ?_
      refine Wlk.ic_ (pcT := 26) (pcF := 23) dc_jdk_52_method_21_code_20 (by decide) (by decide) rfl (fun (hc1 : ¬ ((255 : Int32) < c)) => ?_) (fun (hc1 : (255 : Int32) < c) => ?_)
      · skip
        refine Wlk.aloadN (pc' := 27) (v := (.ref b)) dc_jdk_52_method_21_code_26 rfl rfl rfl ?_
        refine Wlk.iloadN (pc' := 28) (v := (Int32.ofNat pre.length)) dc_jdk_52_method_21_code_27 rfl rfl ?_
        refine Wlk.iload (pc' := 30) (v := c) dc_jdk_52_method_21_code_28 rfl rfl ?_
        refine Wlk.i2b (pc' := 31) dc_jdk_52_method_21_code_30 rfl ?_
        refine Wlk.bastore (pc' := 32) (i := pre.length) dc_jdk_52_method_21_code_31 B2 ⟨i32_nn (by omega), (i32_lt (by omega) (by omega)).mpr (by omega)⟩ (i32_cl (by omega)) (by simp [vL]) gb rfl (fun h2 W3 A4 => ?_)
        refine Wlk.iinc (pc' := 35) (v := (1 : Int32)) (x := (Int32.ofNat pre.length)) (Ls' := #[.val (.ref a), .val (.int ((Int32.ofNat pre.length) + (1 : Int32))), .val (.ref b), .val (.int (Int32.ofNat pre.length)), .val (.int (Int32.ofNat cs.length)), .val (.int (Int32.ofNat pre.length)), .val (.int c)]) dc_jdk_52_method_21_code_32 (by decide) rfl rfl rfl rfl ?_
        refine Wlk.iinc (pc' := 38) (v := (1 : Int32)) (x := (Int32.ofNat pre.length)) (Ls' := #[.val (.ref a), .val (.int ((Int32.ofNat pre.length) + (1 : Int32))), .val (.ref b), .val (.int ((Int32.ofNat pre.length) + (1 : Int32))), .val (.int (Int32.ofNat cs.length)), .val (.int (Int32.ofNat pre.length)), .val (.int c)]) dc_jdk_52_method_21_code_35 (by decide) rfl rfl rfl rfl ?_
        refine Wlk.iinc (pc' := 41) (v := (1 : Int32)) (x := (Int32.ofNat pre.length)) (Ls' := #[.val (.ref a), .val (.int ((Int32.ofNat pre.length) + (1 : Int32))), .val (.ref b), .val (.int ((Int32.ofNat pre.length) + (1 : Int32))), .val (.int (Int32.ofNat cs.length)), .val (.int ((Int32.ofNat pre.length) + (1 : Int32))), .val (.int c)]) dc_jdk_52_method_21_code_38 (by decide) rfl rfl rfl rfl ?_
        refine Wlk.goto (pc' := 3) dc_jdk_52_method_21_code_41 (by decide) (by decide) ?_
        have e1 : Int32.ofNat pre.length + 1 = Int32.ofNat (pre ++ [c]).length := by rw [i32_succ]; simp
        rw [e1]
        refine ih (pre ++ [c]) _ _ (One.val rfl) (by rw [hcs]; simp) (fun x hx => ?_) (K.wr W3 (Or.inl (List.mem_of_getElem? (i := 0) rfl))) (set_vL pre c ▸ A4)
        rcases List.mem_append.mp hx with hx | hx
        · exact hp x hx
        · rw [List.mem_singleton.mp hx]; exact hc1
      · skip
        refine Wlk.iload (pc' := 25) (v := (Int32.ofNat pre.length)) dc_jdk_52_method_21_code_23 rfl rfl ?_
        refine Wlk.ireturnI dc_jdk_52_method_21_code_25 rfl (by decide) (by decide) ?_
        have el : lat cs = pre := by rw [hcs, lat_app hp, lat_stop hc1, List.append_nil]
        exact ⟨by rw [el], K, by rw [el]; exact B⟩
  exact loop cs [] h0 .unset One.u rfl (fun _ q => nomatch q) (Keep.refl _ _) B1

set_option maxRecDepth 65536 in
set_option maxHeartbeats 40000000 in
theorem st_nbl {l : Launch} {Z : State} {a0 : Array Value} (hw : ∀ d ∈ tables_1, d.before a0 Z = true) (n : Nat) (h0 : Heap) (hn : n ≤ 4000) :
    Met l Z (⟨"java/lang/StringUTF16", "newBytesLength", "(I)I"⟩ : MethodName) jdk_52_method_3_code 1 (some .int) false [] ({ frames := 0, cells := 0, slots := 0, locals := 0 } : Room) #[(.int (Int32.ofNat n))] h0 (false, [], []) (fun v h J' => v = some (.int (Int32.ofNat (2 * n))) ∧ h0 = h) := by
  refine Met.of_goes (Ls := #[.val (.int (Int32.ofNat n))]) (by first | exact plainFor_of_name (by first | (simp [plainName, overriddenIn]; done) | decide +kernel) | decide +kernel) (fun m => by first | (simp [entryFrame, mkF, argsToLocals, Value.category]; done) | rfl) rfl (fun G hGl => ?_)
  subst hGl
  refine Wlk.iloadN (pc' := 1) (v := (Int32.ofNat n)) dc_jdk_52_method_3_code_0 rfl rfl ?_
  refine Wlk.ifT (pc' := 12) dc_jdk_52_method_3_code_1 (by decide) (by decide) (show ¬ ((Int32.ofNat n) < (0 : Int32)) from (i32_nn (by omega))) ?_
  refine Wlk.iloadN (pc' := 13) (v := (Int32.ofNat n)) dc_jdk_52_method_3_code_12 rfl rfl ?_
  refine Wlk.ldcI (pc' := 15) (v := (1073741823 : Int32)) dc_jdk_52_method_3_code_13 (hw _ (List.mem_of_getElem? (i := 63) rfl)) rfl ?_
  refine Wlk.icT (pc' := 55) dc_jdk_52_method_3_code_15 (by decide) (by decide) (show (Int32.ofNat n) < (1073741823 : Int32) from ((i32_lt (j := 1073741823) (by omega) (by omega)).mpr (by omega))) ?_
  refine Wlk.iloadN (pc' := 56) (v := (Int32.ofNat n)) dc_jdk_52_method_3_code_55 rfl rfl ?_
  refine Wlk.iconst (pc' := 57) (v := (1 : Int32)) dc_jdk_52_method_3_code_56 rfl rfl ?_
  refine Wlk.ishl (pc' := 58) dc_jdk_52_method_3_code_57 rfl ?_
  refine Wlk.ireturnI dc_jdk_52_method_3_code_58 rfl (by decide) (by decide) ?_
  exact ⟨(by rw [i32_shl1 _ (by omega)]), rfl⟩

set_option maxRecDepth 65536 in
set_option maxHeartbeats 40000000 in
theorem st_nbf {l : Launch} {Z : State} {a0 : Array Value} (hw : ∀ d ∈ tables_1, d.before a0 Z = true) (n : Nat) (h0 : Heap) (hn : n ≤ 10) :
    Met l Z (⟨"java/lang/StringUTF16", "newBytesFor", "(I)[B"⟩ : MethodName) jdk_52_method_2_code 1 (some (.array .byte)) false [] ({ frames := 1, cells := 1, slots := 20, locals := 12 } : Room) #[(.int (Int32.ofNat n))] h0 (false, [], []) (fun v h J' => ∃ (t : Addr) (kb : ClassId), v = some (.ref t) ∧ h0.size ≤ t ∧ Z.heap.size ≤ t ∧ Keep h0 h [] ∧ Arv Z h t kb .byte (Int32.ofNat (2 * n)) [] (.int 0)) := by
  refine Met.of_goes (Ls := #[.val (.int (Int32.ofNat n))]) (by first | exact plainFor_of_name (by first | (simp [plainName, overriddenIn]; done) | decide +kernel) | decide +kernel) (fun m => by first | (simp [entryFrame, mkF, argsToLocals, Value.category]; done) | rfl) rfl (fun G hGl => ?_)
  subst hGl
  refine Wlk.iloadN (pc' := 1) (v := (Int32.ofNat n)) dc_jdk_52_method_2_code_0 rfl rfl ?_
  refine Wlk.callS (pc' := 4) (z := (⟨"java/lang/StringUTF16", "newBytesLength", "(I)I"⟩ : MethodName)) (argsL := [(.int (Int32.ofNat n))]) (st := []) (W := 0) dc_jdk_52_method_2_code_1 (hw _ (List.mem_of_getElem? (i := 60) rfl)) (hw _ (List.mem_of_getElem? (i := 61) rfl)) (hw _ (List.mem_of_getElem? (i := 23) rfl)) (hw _ (List.mem_of_getElem? (i := 62) rfl)) (by decide) pd_0 rfl (st_nbl hw n h0 (by omega)) (by decide) rfl (by decide) (by decide) (by decide) rfl rfl (fun v5 h6 J7 q8 => ?_)
  obtain ⟨rfl, rfl⟩ := q8
  show Wlk _ _ _ _ _ _ _ _ _ h0 0 0 4 #[.val (.int (Int32.ofNat n))] [(.int (Int32.ofNat (2 * n)))]
  refine Wlk.newP (pc' := 6) (ty := .byte) (cap := 20) dc_jdk_52_method_2_code_4 rfl (hw _ (List.mem_of_getElem? (i := 25) rfl)) (i32_nn (by omega)) (by rw [i32_cl (by omega)]; omega) (by decide) (by decide) (by decide) rfl (fun b9 h10 kc11 le12 g13 E14 A15 => ?_)
  refine Wlk.areturn (t := (.array .byte)) dc_jdk_52_method_2_code_6 rfl rfl rfl rfl (by decide) (by decide) ?_
  exact ⟨b9, kc11, rfl, (Nat.le_trans (Nat.le_refl _) le12), g13, ((Keep.refl h0 []).ext E14), A15⟩

set_option maxRecDepth 65536 in
set_option maxHeartbeats 40000000 in
theorem st_put {l : Launch} {Z : State} {a0 : Array Value} (hw : ∀ d ∈ tables_1, d.before a0 Z = true) (t : Addr) (i : Nat) (c : Int32) (kb : ClassId) (m : Nat) (vs : List Value) (h0 : Heap) (q0_Sta : Sta Z Z.heap "java/lang/StringUTF16" "$assertionsDisabled" "Z" (.int (1 : Int32))) (q1_Sta : Sta Z Z.heap "java/lang/StringUTF16" "HI_BYTE_SHIFT" "I" (.int (0 : Int32))) (q2_Sta : Sta Z Z.heap "java/lang/StringUTF16" "LO_BYTE_SHIFT" "I" (.int (8 : Int32))) (q3_A : Arv Z h0 t kb .byte (Int32.ofNat m) vs (.int 0)) (q4_G : Z.heap.size ≤ t) (hi : 2 * i + 1 < vs.length) (hvm : vs.length ≤ m) (hm : m ≤ 10000) :
    Met l Z (⟨"java/lang/StringUTF16", "putChar", "([BII)V"⟩ : MethodName) jdk_52_method_4_code 3 none false [] ({ frames := 0, cells := 0, slots := 0, locals := 0 } : Room) #[(.ref t), (.int (Int32.ofNat i)), (.int c)] h0 (false, [], []) (fun v h J' => v = none ∧ Keep h0 h [t] ∧ Arv Z h t kb .byte (Int32.ofNat m) (List.set (List.set vs (2 * i) (.int (bL c))) (2 * i + 1) (.int (bH c))) (.int 0)) := by
  refine Met.of_goes (Ls := #[.val (.ref t), .val (.int (Int32.ofNat i)), .val (.int c)]) (by first | exact plainFor_of_name (by first | (simp [plainName, overriddenIn]; done) | decide +kernel) | decide +kernel) (fun m => by first | (simp [entryFrame, mkF, argsToLocals, Value.category]; done) | rfl) rfl (fun G hGl => ?_)
  subst hGl
  refine Wlk.getS (pc' := 3) (v := (.int (1 : Int32))) dc_jdk_52_method_4_code_0 (hw _ (List.mem_of_getElem? (i := 67) rfl)) Via.refl q0_Sta rfl ?_
  refine Wlk.ifT (pc' := 28) dc_jdk_52_method_4_code_3 (by decide) (by decide) (show ¬ ((1 : Int32) = (0 : Int32)) from by decide) ?_
  refine Wlk.iloadN (pc' := 29) (v := (Int32.ofNat i)) dc_jdk_52_method_4_code_28 rfl rfl ?_
  refine Wlk.iconst (pc' := 30) (v := (1 : Int32)) dc_jdk_52_method_4_code_29 rfl rfl ?_
  refine Wlk.ishl (pc' := 31) dc_jdk_52_method_4_code_30 rfl ?_
  rw [i32_shl1 _ (by omega)]
  refine Wlk.istoreN (pc' := 32) (Ls' := #[.val (.ref t), .val (.int (Int32.ofNat (2 * i))), .val (.int c)]) dc_jdk_52_method_4_code_31 rfl rfl rfl ?_
  refine Wlk.aloadN (pc' := 33) (v := (.ref t)) dc_jdk_52_method_4_code_32 rfl rfl rfl ?_
  refine Wlk.iloadN (pc' := 34) (v := (Int32.ofNat (2 * i))) dc_jdk_52_method_4_code_33 rfl rfl ?_
  refine Wlk.iinc (pc' := 37) (v := (1 : Int32)) (x := (Int32.ofNat (2 * i))) (Ls' := #[.val (.ref t), .val (.int ((Int32.ofNat (2 * i)) + (1 : Int32))), .val (.int c)]) dc_jdk_52_method_4_code_34 (by decide) rfl rfl rfl rfl ?_
  rw [i32_succ]
  refine Wlk.iloadN (pc' := 38) (v := c) dc_jdk_52_method_4_code_37 rfl rfl ?_
  refine Wlk.getS (pc' := 41) (v := (.int (0 : Int32))) dc_jdk_52_method_4_code_38 (hw _ (List.mem_of_getElem? (i := 68) rfl)) Via.refl q1_Sta rfl ?_
  refine Wlk.ishr (pc' := 42) dc_jdk_52_method_4_code_41 rfl ?_
  refine Wlk.i2b (pc' := 43) dc_jdk_52_method_4_code_42 rfl ?_
  refine Wlk.bastore (pc' := 44) (i := (2 * i)) dc_jdk_52_method_4_code_43 q3_A ⟨i32_nn (by omega), (i32_lt (by omega) (by omega)).mpr (by omega)⟩ (i32_cl (by omega)) (by omega) q4_G rfl (fun h16 W17 A18 => ?_)
  rw [u_lo c] at A18
  refine Wlk.aloadN (pc' := 45) (v := (.ref t)) dc_jdk_52_method_4_code_44 rfl rfl rfl ?_
  refine Wlk.iloadN (pc' := 46) (v := (Int32.ofNat (2 * i + 1))) dc_jdk_52_method_4_code_45 rfl rfl ?_
  refine Wlk.iloadN (pc' := 47) (v := c) dc_jdk_52_method_4_code_46 rfl rfl ?_
  refine Wlk.getS (pc' := 50) (v := (.int (8 : Int32))) dc_jdk_52_method_4_code_47 (hw _ (List.mem_of_getElem? (i := 69) rfl)) Via.refl q2_Sta rfl ?_
  refine Wlk.ishr (pc' := 51) dc_jdk_52_method_4_code_50 rfl ?_
  refine Wlk.i2b (pc' := 52) dc_jdk_52_method_4_code_51 rfl ?_
  refine Wlk.bastore (pc' := 53) (i := (2 * i + 1)) dc_jdk_52_method_4_code_52 A18 ⟨i32_nn (by omega), (i32_lt (by omega) (by omega)).mpr (by omega)⟩ (i32_cl (by omega)) (by rw [List.length_set]; exact hi) q4_G rfl (fun h19 W20 A21 => ?_)
  rw [u_hi c] at A21
  refine Wlk.return_ dc_jdk_52_method_4_code_53 rfl (by decide) (by decide) ?_
  exact ⟨rfl, (((Keep.refl h0 [t]).wr W17 (Or.inl (List.mem_of_getElem? (i := 0) rfl))).wr W20 (Or.inl (List.mem_of_getElem? (i := 0) rfl))), A21⟩

set_option maxRecDepth 65536 in
set_option maxHeartbeats 40000000 in
theorem st_tob {l : Launch} {Z : State} {a0 : Array Value} (hw : ∀ d ∈ tables_1, d.before a0 Z = true) (a : Addr) (ka : ClassId) (cs : List Int32) (d : Value) (h0 : Heap) (q0_Sta : Sta Z Z.heap "java/lang/StringUTF16" "$assertionsDisabled" "Z" (.int (1 : Int32))) (q1_Sta : Sta Z Z.heap "java/lang/StringUTF16" "HI_BYTE_SHIFT" "I" (.int (0 : Int32))) (q2_Sta : Sta Z Z.heap "java/lang/StringUTF16" "LO_BYTE_SHIFT" "I" (.int (8 : Int32))) (A1 : Arv Z h0 a ka .char (Int32.ofNat cs.length) (vC cs) d) (hn : cs.length ≤ 10) :
    Met l Z (⟨"java/lang/StringUTF16", "toBytes", "([CII)[B"⟩ : MethodName) jdk_52_method_14_code 5 (some (.array .byte)) false [] ({ frames := 2, cells := 1, slots := 20, locals := 24 } : Room) #[(.ref a), (.int (0 : Int32)), (.int (Int32.ofNat cs.length))] h0 (false, [], []) (fun v h J => ∃ (t : Addr) (kb : ClassId), v = some (.ref t) ∧ h0.size ≤ t ∧ Z.heap.size ≤ t ∧ Keep h0 h [] ∧ Arv Z h t kb .byte (Int32.ofNat (2 * cs.length)) (vU cs) (.int 0)) := by
  refine Met.of_goes (Ls := #[.val (.ref a), .val (.int (0 : Int32)), .val (.int (Int32.ofNat cs.length)), .unset, .unset]) (by first | exact plainFor_of_name (by first | (simp [plainName, overriddenIn]; done) | decide +kernel) | decide +kernel) (fun m => by first | (simp [entryFrame, mkF, argsToLocals, Value.category]; done) | rfl) rfl (fun G hGl => ?_)
  subst hGl
  refine Wlk.iloadN (pc' := 1) (v := (Int32.ofNat cs.length)) dc_jdk_52_method_14_code_0 rfl rfl ?_
  refine Wlk.callS (pc' := 4) (z := (⟨"java/lang/StringUTF16", "newBytesFor", "(I)[B"⟩ : MethodName)) (argsL := [(.int (Int32.ofNat cs.length))]) (st := []) (W := 0) dc_jdk_52_method_14_code_1 (hw _ (List.mem_of_getElem? (i := 57) rfl)) (hw _ (List.mem_of_getElem? (i := 58) rfl)) (hw _ (List.mem_of_getElem? (i := 23) rfl)) (hw _ (List.mem_of_getElem? (i := 59) rfl)) (by decide) pd_1 rfl (st_nbf hw cs.length h0 (by omega)) (by decide) rfl (by decide) (by decide) (by decide) rfl rfl (fun v22 h23 J24 q25 => ?_)
  obtain ⟨t26, kb27, rfl, le28, g29, K30, n31⟩ := q25
  show Wlk _ _ _ _ _ _ _ _ _ h23 1 20 4 #[.val (.ref a), .val (.int (0 : Int32)), .val (.int (Int32.ofNat cs.length)), .unset, .unset] [(.ref t26)]
  refine Wlk.astoreN (pc' := 5) (Ls' := #[.val (.ref a), .val (.int (0 : Int32)), .val (.int (Int32.ofNat cs.length)), .val (.ref t26), .unset]) dc_jdk_52_method_14_code_4 rfl rfl rfl rfl ?_
  refine Wlk.iconst (pc' := 6) (v := (0 : Int32)) dc_jdk_52_method_14_code_5 rfl rfl ?_
  refine Wlk.istore (pc' := 8) (Ls' := #[.val (.ref a), .val (.int (0 : Int32)), .val (.int (Int32.ofNat cs.length)), .val (.ref t26), .val (.int (0 : Int32))]) dc_jdk_52_method_14_code_6 rfl rfl rfl ?_
  have c32 := (A1.keep K30 nin0)
  have hat : a ≠ t26 := (Nat.ne_of_lt (Nat.lt_of_lt_of_le A1.lt (Nat.le_trans (Nat.le_refl _) le28)))
  have K1 : Keep h0 h23 [] := ((Keep.refl h0 []).trans K30 all0)
  have le1 : h0.size ≤ t26 := (Nat.le_trans (Nat.le_refl _) le28)
  have loop : ∀ (rest pre : List Int32) (h : Heap), cs = pre ++ rest → Keep h23 h [t26] → Arv Z h t26 kb27 .byte (Int32.ofNat (2 * cs.length)) (vU pre) (.int 0) → Wlk G ({ frames := 2, cells := 1, slots := 20, locals := 24 } : Room) Z (⟨"java/lang/StringUTF16", "toBytes", "([CII)[B"⟩ : MethodName) jdk_52_method_14_code (some (.array .byte)) false (false, [], []) (fun v h J => ∃ (t : Addr) (kb : ClassId), v = some (.ref t) ∧ h0.size ≤ t ∧ Z.heap.size ≤ t ∧ Keep h0 h [] ∧ Arv Z h t kb .byte (Int32.ofNat (2 * cs.length)) (vU cs) (.int 0)) h 1 20 8 #[.val (.ref a), .val (.int (Int32.ofNat pre.length)), .val (.int (Int32.ofNat cs.length)), .val (.ref t26), .val (.int (Int32.ofNat pre.length))] [] := by
    intro rest
    induction rest with
    | nil =>
      intro pre h hcs K B
      rw [List.append_nil] at hcs
      subst hcs
      refine Wlk.iload (pc' := 10) (v := (Int32.ofNat cs.length)) dc_jdk_52_method_14_code_8 rfl rfl ?_
      refine Wlk.iloadN (pc' := 11) (v := (Int32.ofNat cs.length)) dc_jdk_52_method_14_code_10 rfl rfl ?_
      refine Wlk.icT (pc' := 32) dc_jdk_52_method_14_code_11 (by decide) (by decide) (show ¬ ((Int32.ofNat cs.length) < (Int32.ofNat cs.length)) from (fun q => absurd ((i32_lt (by omega) (by omega)).mp q) (Nat.lt_irrefl _))) ?_
      refine Wlk.aloadN (pc' := 33) (v := (.ref t26)) dc_jdk_52_method_14_code_32 rfl rfl rfl ?_
      refine Wlk.areturn (t := (.array .byte)) dc_jdk_52_method_14_code_33 rfl rfl rfl rfl (by decide) (by decide) ?_
      exact ⟨t26, kb27, rfl, le1, g29, K1.trans K (allS (Or.inr le1) all0), B⟩
    | cons c rest ih =>
      intro pre h hcs K B
      have hl : cs.length = pre.length + (rest.length + 1) := by rw [hcs]; simp
      have A := c32.keep K (ninS hat nin0)
      have B2 := B.pad (pad_rep _ _ 2)
      have hvl : (vU pre ++ List.replicate 2 (Value.int 0)).length = 2 * pre.length + 2 := by rw [List.length_append, vU_len]; rfl
      refine Wlk.iload (pc' := 10) (v := (Int32.ofNat pre.length)) dc_jdk_52_method_14_code_8 rfl rfl ?_
      refine Wlk.iloadN (pc' := 11) (v := (Int32.ofNat cs.length)) dc_jdk_52_method_14_code_10 rfl rfl ?_
      refine Wlk.icF (pc' := 14) dc_jdk_52_method_14_code_11 (show (Int32.ofNat pre.length) < (Int32.ofNat cs.length) from ((i32_lt (by omega) (by omega)).mpr (by omega))) rfl ?_
      refine Wlk.aloadN (pc' := 15) (v := (.ref t26)) dc_jdk_52_method_14_code_14 rfl rfl rfl ?_
      refine Wlk.iload (pc' := 17) (v := (Int32.ofNat pre.length)) dc_jdk_52_method_14_code_15 rfl rfl ?_
      refine Wlk.aloadN (pc' := 18) (v := (.ref a)) dc_jdk_52_method_14_code_17 rfl rfl rfl ?_
      refine Wlk.iloadN (pc' := 19) (v := (Int32.ofNat pre.length)) dc_jdk_52_method_14_code_18 rfl rfl ?_
      refine Wlk.caload (pc' := 20) (v := (.int c)) dc_jdk_52_method_14_code_19 A ⟨i32_nn (by omega), (i32_lt (by omega) (by omega)).mpr (by omega)⟩ (by rw [i32_cl (by omega), hcs]; simp [vC]) rfl ?_
      refine Wlk.callS (pc' := 23) (z := (⟨"java/lang/StringUTF16", "putChar", "([BII)V"⟩ : MethodName)) (argsL := [(.ref t26), (.int (Int32.ofNat pre.length)), (.int c)]) (st := []) (W := 0) dc_jdk_52_method_14_code_20 (hw _ (List.mem_of_getElem? (i := 64) rfl)) (hw _ (List.mem_of_getElem? (i := 65) rfl)) (hw _ (List.mem_of_getElem? (i := 23) rfl)) (hw _ (List.mem_of_getElem? (i := 66) rfl)) (by decide) pd_2 rfl (st_put hw t26 pre.length c kb27 (2 * cs.length) (vU pre ++ List.replicate 2 (Value.int 0)) h q0_Sta q1_Sta q2_Sta B2 g29 (by rw [hvl]; omega) (by rw [hvl]; omega) (by omega)) (by decide) rfl (by decide) (by decide) (by decide) rfl rfl (fun v33 h34 J35 q36 => ?_)
      obtain ⟨rfl, K37, n38⟩ := q36
      show Wlk _ _ _ _ _ _ _ _ _ h34 1 20 23 #[.val (.ref a), .val (.int (Int32.ofNat pre.length)), .val (.int (Int32.ofNat cs.length)), .val (.ref t26), .val (.int (Int32.ofNat pre.length))] []
      refine Wlk.iinc (pc' := 26) (v := (1 : Int32)) (x := (Int32.ofNat pre.length)) (Ls' := #[.val (.ref a), .val (.int ((Int32.ofNat pre.length) + (1 : Int32))), .val (.int (Int32.ofNat cs.length)), .val (.ref t26), .val (.int (Int32.ofNat pre.length))]) dc_jdk_52_method_14_code_23 (by decide) rfl rfl rfl rfl ?_
      refine Wlk.iinc (pc' := 29) (v := (1 : Int32)) (x := (Int32.ofNat pre.length)) (Ls' := #[.val (.ref a), .val (.int ((Int32.ofNat pre.length) + (1 : Int32))), .val (.int (Int32.ofNat cs.length)), .val (.ref t26), .val (.int ((Int32.ofNat pre.length) + (1 : Int32)))]) dc_jdk_52_method_14_code_26 (by decide) rfl rfl rfl rfl ?_
      refine Wlk.goto (pc' := 8) dc_jdk_52_method_14_code_29 (by decide) (by decide) ?_
      have e1 : Int32.ofNat pre.length + 1 = Int32.ofNat (pre ++ [c]).length := by rw [i32_succ]; simp
      rw [e1]
      exact ih (pre ++ [c]) _ (by rw [hcs]; simp) (K.trans K37 (allS (Or.inl (List.mem_of_getElem? (i := 0) rfl)) all0)) (vU_set pre c ▸ n38)
  exact loop cs [] h23 rfl (Keep.refl _ _) n31

set_option maxRecDepth 65536 in
set_option maxHeartbeats 40000000 in
theorem st_get {l : Launch} {Z : State} {a0 : Array Value} (hw : ∀ d ∈ tables_1, d.before a0 Z = true) (t : Addr) (i : Nat) (c : Int32) (kb : ClassId) (cs : List Int32) (h0 : Heap) (q0_Sta : Sta Z Z.heap "java/lang/StringUTF16" "$assertionsDisabled" "Z" (.int (1 : Int32))) (q1_Sta : Sta Z Z.heap "java/lang/StringUTF16" "HI_BYTE_SHIFT" "I" (.int (0 : Int32))) (q2_Sta : Sta Z Z.heap "java/lang/StringUTF16" "LO_BYTE_SHIFT" "I" (.int (8 : Int32))) (q3_A : Arv Z h0 t kb .byte (Int32.ofNat (2 * cs.length)) (vU cs) (.int 0)) (hc : cs[i]? = some c) (r0 : ¬ c < 0) (r1 : ¬ (65535 : Int32) < c) (hi : i < cs.length) (hn : cs.length ≤ 4000) :
    Met l Z (⟨"java/lang/StringUTF16", "getChar", "([BI)C"⟩ : MethodName) jdk_52_method_5_code 2 (some .char) false [] ({ frames := 0, cells := 0, slots := 0, locals := 0 } : Room) #[(.ref t), (.int (Int32.ofNat i))] h0 (false, [], []) (fun v h J' => v = some (.int c) ∧ h0 = h) := by
  refine Met.of_goes (Ls := #[.val (.ref t), .val (.int (Int32.ofNat i))]) (by first | exact plainFor_of_name (by first | (simp [plainName, overriddenIn]; done) | decide +kernel) | decide +kernel) (fun m => by first | (simp [entryFrame, mkF, argsToLocals, Value.category]; done) | rfl) rfl (fun G hGl => ?_)
  subst hGl
  refine Wlk.getS (pc' := 3) (v := (.int (1 : Int32))) dc_jdk_52_method_5_code_0 (hw _ (List.mem_of_getElem? (i := 67) rfl)) Via.refl q0_Sta rfl ?_
  refine Wlk.ifT (pc' := 28) dc_jdk_52_method_5_code_3 (by decide) (by decide) (show ¬ ((1 : Int32) = (0 : Int32)) from by decide) ?_
  refine Wlk.iloadN (pc' := 29) (v := (Int32.ofNat i)) dc_jdk_52_method_5_code_28 rfl rfl ?_
  refine Wlk.iconst (pc' := 30) (v := (1 : Int32)) dc_jdk_52_method_5_code_29 rfl rfl ?_
  refine Wlk.ishl (pc' := 31) dc_jdk_52_method_5_code_30 rfl ?_
  rw [i32_shl1 _ (by omega)]
  refine Wlk.istoreN (pc' := 32) (Ls' := #[.val (.ref t), .val (.int (Int32.ofNat (2 * i)))]) dc_jdk_52_method_5_code_31 rfl rfl rfl ?_
  refine Wlk.aloadN (pc' := 33) (v := (.ref t)) dc_jdk_52_method_5_code_32 rfl rfl rfl ?_
  refine Wlk.iloadN (pc' := 34) (v := (Int32.ofNat (2 * i))) dc_jdk_52_method_5_code_33 rfl rfl ?_
  refine Wlk.iinc (pc' := 37) (v := (1 : Int32)) (x := (Int32.ofNat (2 * i))) (Ls' := #[.val (.ref t), .val (.int ((Int32.ofNat (2 * i)) + (1 : Int32)))]) dc_jdk_52_method_5_code_34 (by decide) rfl rfl rfl rfl ?_
  rw [i32_succ]
  refine Wlk.baload (pc' := 38) (v := (.int (bL c))) dc_jdk_52_method_5_code_37 q3_A ⟨i32_nn (by omega), (i32_lt (by omega) (by omega)).mpr (by omega)⟩ (by rw [i32_cl (by omega)]; simp [List.getD_eq_getElem?_getD, (vU_get hc).1]) rfl ?_
  refine Wlk.sipush (pc' := 41) (v := (255 : Int32)) dc_jdk_52_method_5_code_38 (by decide) rfl ?_
  refine Wlk.iand (pc' := 42) dc_jdk_52_method_5_code_41 rfl ?_
  refine Wlk.getS (pc' := 45) (v := (.int (0 : Int32))) dc_jdk_52_method_5_code_42 (hw _ (List.mem_of_getElem? (i := 68) rfl)) Via.refl q1_Sta rfl ?_
  refine Wlk.ishl (pc' := 46) dc_jdk_52_method_5_code_45 rfl ?_
  refine Wlk.aloadN (pc' := 47) (v := (.ref t)) dc_jdk_52_method_5_code_46 rfl rfl rfl ?_
  refine Wlk.iloadN (pc' := 48) (v := (Int32.ofNat (2 * i + 1))) dc_jdk_52_method_5_code_47 rfl rfl ?_
  refine Wlk.baload (pc' := 49) (v := (.int (bH c))) dc_jdk_52_method_5_code_48 q3_A ⟨i32_nn (by omega), (i32_lt (by omega) (by omega)).mpr (by omega)⟩ (by rw [i32_cl (by omega)]; simp [List.getD_eq_getElem?_getD, (vU_get hc).2]) rfl ?_
  refine Wlk.sipush (pc' := 52) (v := (255 : Int32)) dc_jdk_52_method_5_code_49 (by decide) rfl ?_
  refine Wlk.iand (pc' := 53) dc_jdk_52_method_5_code_52 rfl ?_
  refine Wlk.getS (pc' := 56) (v := (.int (8 : Int32))) dc_jdk_52_method_5_code_53 (hw _ (List.mem_of_getElem? (i := 69) rfl)) Via.refl q2_Sta rfl ?_
  refine Wlk.ishl (pc' := 57) dc_jdk_52_method_5_code_56 rfl ?_
  refine Wlk.ior (pc' := 58) dc_jdk_52_method_5_code_57 rfl ?_
  refine Wlk.i2c (pc' := 59) dc_jdk_52_method_5_code_58 rfl ?_
  refine Wlk.ireturnN (t := .char) dc_jdk_52_method_5_code_59 rfl (by simp) (by decide) (by decide) ?_
  exact ⟨(congrArg (fun z => some (Value.int z)) (u_get r0 r1)), rfl⟩

set_option maxRecDepth 65536 in
set_option maxHeartbeats 40000000 in
theorem st_codU {l : Launch} {Z : State} {a0 : Array Value} (hw : ∀ d ∈ tables_1, d.before a0 Z = true) (t : Addr) (kb : ClassId) (cs : List Int32) (h0 : Heap) (q0_A : Arv Z h0 t kb .byte (Int32.ofNat (2 * cs.length)) (vU cs) (.int 0)) (hp : 0 < cs.length) (hn : cs.length ≤ 4000) :
    Met l Z (⟨"java/lang/StringUTF16", "coderFromArrayLen", "([BI)B"⟩ : MethodName) jdk_52_method_15_code 2 (some .byte) false [] ({ frames := 0, cells := 0, slots := 0, locals := 0 } : Room) #[(.ref t), (.int (Int32.ofNat cs.length))] h0 (false, [], []) (fun v h J' => v = some (.int (1 : Int32)) ∧ h0 = h) := by
  refine Met.of_goes (Ls := #[.val (.ref t), .val (.int (Int32.ofNat cs.length))]) (by first | exact plainFor_of_name (by first | (simp [plainName, overriddenIn]; done) | decide +kernel) | decide +kernel) (fun m => by first | (simp [entryFrame, mkF, argsToLocals, Value.category]; done) | rfl) rfl (fun G hGl => ?_)
  subst hGl
  refine Wlk.iloadN (pc' := 1) (v := (Int32.ofNat cs.length)) dc_jdk_52_method_15_code_0 rfl rfl ?_
  refine Wlk.aloadN (pc' := 2) (v := (.ref t)) dc_jdk_52_method_15_code_1 rfl rfl rfl ?_
  refine Wlk.arraylength (pc' := 3) dc_jdk_52_method_15_code_2 q0_A rfl ?_
  refine Wlk.isub (pc' := 4) dc_jdk_52_method_15_code_3 rfl ?_
  refine Wlk.bipush (pc' := 6) (v := (31 : Int32)) dc_jdk_52_method_15_code_4 (by decide) rfl ?_
  refine Wlk.iushr (pc' := 7) dc_jdk_52_method_15_code_6 rfl ?_
  refine Wlk.i2b (pc' := 8) dc_jdk_52_method_15_code_7 rfl ?_
  refine Wlk.ireturnN (t := .byte) dc_jdk_52_method_15_code_8 rfl (by simp) (by decide) (by decide) ?_
  exact ⟨(congrArg (fun z => some (Value.int z)) (cod1 hp (by omega))), rfl⟩

set_option maxRecDepth 65536 in
set_option maxHeartbeats 40000000 in
theorem st_cmpA {l : Launch} {Z : State} {a0 : Array Value} (hw : ∀ d ∈ tables_1, d.before a0 Z = true) (a : Addr) (ka : ClassId) (cs : List Int32) (d : Value) (h0 : Heap) (q0_Sta : Sta Z Z.heap "java/lang/StringUTF16" "$assertionsDisabled" "Z" (.int (1 : Int32))) (q1_Sta : Sta Z Z.heap "java/lang/StringUTF16" "HI_BYTE_SHIFT" "I" (.int (0 : Int32))) (q2_Sta : Sta Z Z.heap "java/lang/StringUTF16" "LO_BYTE_SHIFT" "I" (.int (8 : Int32))) (q3_A : Arv Z h0 a ka .char (Int32.ofNat cs.length) (vC cs) d) (hn : cs.length ≤ 10) (hR : ∀ c ∈ cs, ¬ c < 0 ∧ ¬ (65535 : Int32) < c) :
    Met l Z (⟨"java/lang/StringUTF16", "compress", "([CII)[B"⟩ : MethodName) jdk_52_method_16_code 6 (some (.array .byte)) false [] ({ frames := 3, cells := 2, slots := 30, locals := 40 } : Room) #[(.ref a), (.int (0 : Int32)), (.int (Int32.ofNat cs.length))] h0 (false, [], []) (fun v h J' => ∃ (t : Addr) (kb : ClassId), v = some (.ref t) ∧ h0.size ≤ t ∧ Z.heap.size ≤ t ∧ Keep h0 h [] ∧ ((lat cs = cs ∧ Arv Z h t kb .byte (Int32.ofNat cs.length) (vL cs) (.int 0)) ∨ (¬ lat cs = cs ∧ Arv Z h t kb .byte (Int32.ofNat (2 * cs.length)) (vU cs) (.int 0)))) := by
  refine Met.of_goes (Ls := #[.val (.ref a), .val (.int (0 : Int32)), .val (.int (Int32.ofNat cs.length)), .unset, .unset, .unset]) (by first | exact plainFor_of_name (by first | (simp [plainName, overriddenIn]; done) | decide +kernel) | decide +kernel) (fun m => by first | (simp [entryFrame, mkF, argsToLocals, Value.category]; done) | rfl) rfl (fun G hGl => ?_)
  subst hGl
  refine Wlk.iloadN (pc' := 1) (v := (Int32.ofNat cs.length)) dc_jdk_52_method_16_code_0 rfl rfl ?_
  refine Wlk.newP (pc' := 3) (ty := .byte) (cap := 10) dc_jdk_52_method_16_code_1 rfl (hw _ (List.mem_of_getElem? (i := 25) rfl)) (i32_nn (by omega)) (by rw [i32_cl (by omega)]; exact hn) (by decide) (by decide) (by decide) rfl (fun b39 h40 kc41 le42 g43 E44 A45 => ?_)
  refine Wlk.astoreN (pc' := 4) (Ls' := #[.val (.ref a), .val (.int (0 : Int32)), .val (.int (Int32.ofNat cs.length)), .val (.ref b39), .unset, .unset]) dc_jdk_52_method_16_code_3 rfl rfl rfl rfl ?_
  refine Wlk.aloadN (pc' := 5) (v := (.ref a)) dc_jdk_52_method_16_code_4 rfl rfl rfl ?_
  refine Wlk.iloadN (pc' := 6) (v := (0 : Int32)) dc_jdk_52_method_16_code_5 rfl rfl ?_
  refine Wlk.aloadN (pc' := 7) (v := (.ref b39)) dc_jdk_52_method_16_code_6 rfl rfl rfl ?_
  refine Wlk.iconst (pc' := 8) (v := (0 : Int32)) dc_jdk_52_method_16_code_7 rfl rfl ?_
  refine Wlk.iloadN (pc' := 9) (v := (Int32.ofNat cs.length)) dc_jdk_52_method_16_code_8 rfl rfl ?_
  have c46 := (q3_A.ext E44)
  refine Wlk.callS (pc' := 12) (z := (⟨"java/lang/StringUTF16", "compress", "([CI[BII)I"⟩ : MethodName)) (argsL := [(.ref a), (.int (0 : Int32)), (.ref b39), (.int (0 : Int32)), (.int (Int32.ofNat cs.length))]) (st := []) (W := 0) dc_jdk_52_method_16_code_9 (hw _ (List.mem_of_getElem? (i := 26) rfl)) (hw _ (List.mem_of_getElem? (i := 27) rfl)) (hw _ (List.mem_of_getElem? (i := 23) rfl)) (hw _ (List.mem_of_getElem? (i := 28) rfl)) (by decide) pd_3 rfl (st_cmp5 hw a b39 ka kc41 cs d h40 c46 A45 (Nat.ne_of_lt (Nat.lt_of_lt_of_le q3_A.lt (Nat.le_trans (Nat.le_refl _) le42))) g43 (by omega)) (by decide) rfl (by decide) (by decide) (by decide) rfl rfl (fun v47 h48 J49 q50 => ?_)
  obtain ⟨rfl, K51, A52⟩ := q50
  show Wlk _ _ _ _ _ _ _ _ _ h48 1 10 12 #[.val (.ref a), .val (.int (0 : Int32)), .val (.int (Int32.ofNat cs.length)), .val (.ref b39), .unset, .unset] [(.int (Int32.ofNat (lat cs).length))]
  refine Wlk.istore (pc' := 14) (Ls' := #[.val (.ref a), .val (.int (0 : Int32)), .val (.int (Int32.ofNat cs.length)), .val (.ref b39), .val (.int (Int32.ofNat (lat cs).length)), .unset]) dc_jdk_52_method_16_code_12 rfl rfl rfl ?_
  refine Wlk.iload (pc' := 16) (v := (Int32.ofNat (lat cs).length)) dc_jdk_52_method_16_code_14 rfl rfl ?_
  refine Wlk.iloadN (pc' := 17) (v := (Int32.ofNat cs.length)) dc_jdk_52_method_16_code_16 rfl rfl ?_
  refine Wlk.ic_ (pcT := 57) (pcF := 20) dc_jdk_52_method_16_code_17 (by decide) (by decide) rfl (fun (hc53 : (Int32.ofNat (lat cs).length) = (Int32.ofNat cs.length)) => ?_) (fun (hc53 : ¬ ((Int32.ofNat (lat cs).length) = (Int32.ofNat cs.length))) => ?_)
  · skip
    have hlat : lat cs = cs := lat_full ((i32_eq (by have := lat_le cs; omega) (by omega)).mp hc53)
    refine Wlk.aloadN (pc' := 58) (v := (.ref b39)) dc_jdk_52_method_16_code_57 rfl rfl rfl ?_
    refine Wlk.areturn (t := (.array .byte)) dc_jdk_52_method_16_code_58 rfl rfl rfl rfl (by decide) (by decide) ?_
    exact ⟨b39, kc41, rfl, (Nat.le_trans (Nat.le_refl _) le42), g43, (((Keep.refl h0 []).ext E44).trans K51 (allS (Or.inr (Nat.le_trans (Nat.le_refl _) le42)) all0)), (Or.inl ⟨hlat, by have q := A52; rw [hlat] at q; exact q⟩)⟩
  · skip
    have hlat : ¬ lat cs = cs := fun q => hc53 (by rw [q])
    obtain ⟨c, rest, ecs, hgt⟩ := lat_next hlat
    have hc : cs[(lat cs).length]? = some c := lat_at ecs
    have hi : (lat cs).length < cs.length := (List.getElem?_eq_some_iff.mp hc).1
    have r0 := (hR c (List.mem_of_getElem? hc)).1
    have r1 := (hR c (List.mem_of_getElem? hc)).2
    refine Wlk.aloadN (pc' := 21) (v := (.ref a)) dc_jdk_52_method_16_code_20 rfl rfl rfl ?_
    refine Wlk.iloadN (pc' := 22) (v := (0 : Int32)) dc_jdk_52_method_16_code_21 rfl rfl ?_
    refine Wlk.iloadN (pc' := 23) (v := (Int32.ofNat cs.length)) dc_jdk_52_method_16_code_22 rfl rfl ?_
    have c54 := (c46.keep K51 (ninS (Nat.ne_of_lt (Nat.lt_of_lt_of_le q3_A.lt (Nat.le_trans (Nat.le_refl _) le42))) nin0))
    refine Wlk.callS (pc' := 26) (z := (⟨"java/lang/StringUTF16", "toBytes", "([CII)[B"⟩ : MethodName)) (argsL := [(.ref a), (.int (0 : Int32)), (.int (Int32.ofNat cs.length))]) (st := []) (W := 0) dc_jdk_52_method_16_code_23 (hw _ (List.mem_of_getElem? (i := 54) rfl)) (hw _ (List.mem_of_getElem? (i := 55) rfl)) (hw _ (List.mem_of_getElem? (i := 23) rfl)) (hw _ (List.mem_of_getElem? (i := 56) rfl)) (by decide) pd_4 rfl (st_tob hw a ka cs d h48 q0_Sta q1_Sta q2_Sta c54 hn) (by decide) rfl (by decide) (by decide) (by decide) rfl rfl (fun v55 h56 J57 q58 => ?_)
    obtain ⟨t59, kb60, rfl, le61, g62, K63, B64⟩ := q58
    show Wlk _ _ _ _ _ _ _ _ _ h56 2 30 26 #[.val (.ref a), .val (.int (0 : Int32)), .val (.int (Int32.ofNat cs.length)), .val (.ref b39), .val (.int (Int32.ofNat (lat cs).length)), .unset] [(.ref t59)]
    refine Wlk.astore (pc' := 28) (Ls' := #[.val (.ref a), .val (.int (0 : Int32)), .val (.int (Int32.ofNat cs.length)), .val (.ref b39), .val (.int (Int32.ofNat (lat cs).length)), .val (.ref t59)]) dc_jdk_52_method_16_code_26 rfl rfl rfl rfl ?_
    refine Wlk.aload (pc' := 30) (v := (.ref t59)) dc_jdk_52_method_16_code_28 rfl rfl rfl ?_
    refine Wlk.iload (pc' := 32) (v := (Int32.ofNat (lat cs).length)) dc_jdk_52_method_16_code_30 rfl rfl ?_
    refine Wlk.callS (pc' := 35) (z := (⟨"java/lang/StringUTF16", "getChar", "([BI)C"⟩ : MethodName)) (argsL := [(.ref t59), (.int (Int32.ofNat (lat cs).length))]) (st := []) (W := 0) dc_jdk_52_method_16_code_32 (hw _ (List.mem_of_getElem? (i := 70) rfl)) (hw _ (List.mem_of_getElem? (i := 71) rfl)) (hw _ (List.mem_of_getElem? (i := 23) rfl)) (hw _ (List.mem_of_getElem? (i := 72) rfl)) (by decide) pd_5 rfl (st_get hw t59 ((lat cs).length) c kb60 _ h56 q0_Sta q1_Sta q2_Sta B64 hc r0 r1 hi (by omega)) (by decide) rfl (by decide) (by decide) (by decide) rfl rfl (fun v65 h66 J67 q68 => ?_)
    obtain ⟨rfl, rfl⟩ := q68
    show Wlk _ _ _ _ _ _ _ _ _ h56 2 30 35 #[.val (.ref a), .val (.int (0 : Int32)), .val (.int (Int32.ofNat cs.length)), .val (.ref b39), .val (.int (Int32.ofNat (lat cs).length)), .val (.ref t59)] [(.int c)]
    refine Wlk.sipush (pc' := 38) (v := (255 : Int32)) dc_jdk_52_method_16_code_35 (by decide) rfl ?_
    refine Wlk.icT (pc' := 54) dc_jdk_52_method_16_code_38 (by decide) (by decide) (show (255 : Int32) < c from hgt) ?_
    refine Wlk.aload (pc' := 56) (v := (.ref t59)) dc_jdk_52_method_16_code_54 rfl rfl rfl ?_
    refine Wlk.areturn (t := (.array .byte)) dc_jdk_52_method_16_code_56 rfl rfl rfl rfl (by decide) (by decide) ?_
    exact ⟨t59, kb60, rfl, (Nat.le_trans (Nat.le_trans E44.1 K51.1) le61), g62, ((((Keep.refl h0 []).ext E44).trans K51 (allS (Or.inr (Nat.le_trans (Nat.le_refl _) le42)) all0)).trans K63 all0), (Or.inr ⟨hlat, B64⟩)⟩

set_option maxRecDepth 65536 in
set_option maxHeartbeats 40000000 in
theorem st_cod {l : Launch} {Z : State} {a0 : Array Value} (hw : ∀ d ∈ tables_1, d.before a0 Z = true) (t : Addr) (kb : ClassId) (N : Int32) (vs : List Value) (d : Value) (h0 : Heap) (B1 : Arv Z h0 t kb .byte N vs d) :
    Met l Z (⟨"java/lang/StringUTF16", "coderFromArrayLen", "([BI)B"⟩ : MethodName) jdk_52_method_15_code 2 (some .byte) false [] ({ frames := 0, cells := 0, slots := 0, locals := 0 } : Room) #[(.ref t), (.int N)] h0 (false, [], []) (fun v h J => v = some (.int 0) ∧ h0 = h) := by
  refine Met.of_goes (Ls := #[.val (.ref t), .val (.int N)]) (by first | exact plainFor_of_name (by first | (simp [plainName, overriddenIn]; done) | decide +kernel) | decide +kernel) (fun m => by first | (simp [entryFrame, mkF, argsToLocals, Value.category]; done) | rfl) rfl (fun G hGl => ?_)
  subst hGl
  refine Wlk.iloadN (pc' := 1) (v := N) dc_jdk_52_method_15_code_0 rfl rfl ?_
  refine Wlk.aloadN (pc' := 2) (v := (.ref t)) dc_jdk_52_method_15_code_1 rfl rfl rfl ?_
  refine Wlk.arraylength (pc' := 3) dc_jdk_52_method_15_code_2 B1 rfl ?_
  refine Wlk.isub (pc' := 4) dc_jdk_52_method_15_code_3 rfl ?_
  refine Wlk.bipush (pc' := 6) (v := (31 : Int32)) dc_jdk_52_method_15_code_4 (by decide) rfl ?_
  refine Wlk.iushr (pc' := 7) dc_jdk_52_method_15_code_6 rfl ?_
  refine Wlk.i2b (pc' := 8) dc_jdk_52_method_15_code_7 rfl ?_
  refine Wlk.ireturnN (t := .byte) dc_jdk_52_method_15_code_8 rfl (by simp) (by decide) (by decide) ?_
  exact ⟨by rw [Int32.sub_self]; rfl, rfl⟩

set_option maxRecDepth 65536 in
set_option maxHeartbeats 40000000 in
theorem st_ini4A {l : Launch} {Z : State} {a0 : Array Value} (hw : ∀ d ∈ tables_1, d.before a0 Z = true) (s : Addr) (a : Addr) (u1 : Value) (u2 : Value) (ka : ClassId) (cs : List Int32) (d : Value) (zc : Int32) (h0 : Heap) (q0_Sta : Sta Z Z.heap "java/lang/StringUTF16" "$assertionsDisabled" "Z" (.int (1 : Int32))) (q1_Sta : Sta Z Z.heap "java/lang/StringUTF16" "HI_BYTE_SHIFT" "I" (.int (0 : Int32))) (q2_Sta : Sta Z Z.heap "java/lang/StringUTF16" "LO_BYTE_SHIFT" "I" (.int (8 : Int32))) (q3_E : Exa Z h0 s "java/lang/String") (q4_F : Fld Z h0 s "java/lang/String" "value" "[B" u1) (q5_F : Fld Z h0 s "java/lang/String" "coder" "B" u2) (q6_G : Z.heap.size ≤ s) (q7_A : Arv Z h0 a ka .char (Int32.ofNat cs.length) (vC cs) d) (q8_Sta : Sta Z Z.heap "java/lang/String" "COMPACT_STRINGS" "Z" (.int zc)) (P3 : ¬ zc = 0) (hn : cs.length ≤ 10) (hp : 0 < cs.length) (hR : ∀ c ∈ cs, ¬ c < 0 ∧ ¬ (65535 : Int32) < c) :
    Met l Z (⟨"java/lang/String", "<init>", "([CIILjava/lang/Void;)V"⟩ : MethodName) jdk_42_method_149_code 6 none false [] ({ frames := 4, cells := 2, slots := 30, locals := 57 } : Room) #[(.ref s), (.ref a), (.int (0 : Int32)), (.int (Int32.ofNat cs.length)), .null] h0 (false, [], []) (fun v h J' => ∃ (t : Addr), v = none ∧ h0.size ≤ t ∧ Z.heap.size ≤ t ∧ Keep h0 h [s] ∧ StrA Z h s t cs) := by
  refine Met.of_goes (Ls := #[.val (.ref s), .val (.ref a), .val (.int (0 : Int32)), .val (.int (Int32.ofNat cs.length)), .val .null, .unset]) (by first | exact plainFor_of_name (by first | (simp [plainName, overriddenIn]; done) | decide +kernel) | decide +kernel) (fun m => by first | (simp [entryFrame, mkF, argsToLocals, Value.category]; done) | rfl) rfl (fun G hGl => ?_)
  subst hGl
  refine Wlk.aloadN (pc' := 1) (v := (.ref s)) dc_jdk_42_method_149_code_0 rfl rfl rfl ?_
  refine Wlk.initO (pc' := 4) (W := 0) dc_jdk_42_method_149_code_1 (hw _ (List.mem_of_getElem? (i := 17) rfl)) (hw _ (List.mem_of_getElem? (i := 18) rfl)) (hw _ (List.mem_of_getElem? (i := 19) rfl)) (by decide) rfl (by decide) rfl ?_
  refine Wlk.iloadN (pc' := 5) (v := (Int32.ofNat cs.length)) dc_jdk_42_method_149_code_4 rfl rfl ?_
  refine Wlk.ifT (pc' := 27) dc_jdk_42_method_149_code_5 (by decide) (by decide) (show ¬ ((Int32.ofNat cs.length) = (0 : Int32)) from (fun q => absurd ((i32_eq (j := 0) (by omega) (by omega)).mp q) (by omega))) ?_
  refine Wlk.getS (pc' := 30) (v := (.int zc)) dc_jdk_42_method_149_code_27 (hw _ (List.mem_of_getElem? (i := 20) rfl)) Via.refl q8_Sta rfl ?_
  refine Wlk.ifF (pc' := 33) dc_jdk_42_method_149_code_30 (show ¬ (zc = (0 : Int32)) from P3) rfl ?_
  refine Wlk.aloadN (pc' := 34) (v := (.ref a)) dc_jdk_42_method_149_code_33 rfl rfl rfl ?_
  refine Wlk.iloadN (pc' := 35) (v := (0 : Int32)) dc_jdk_42_method_149_code_34 rfl rfl ?_
  refine Wlk.iloadN (pc' := 36) (v := (Int32.ofNat cs.length)) dc_jdk_42_method_149_code_35 rfl rfl ?_
  refine Wlk.callS (pc' := 39) (z := (⟨"java/lang/StringUTF16", "compress", "([CII)[B"⟩ : MethodName)) (argsL := [(.ref a), (.int (0 : Int32)), (.int (Int32.ofNat cs.length))]) (st := []) (W := 0) dc_jdk_42_method_149_code_36 (hw _ (List.mem_of_getElem? (i := 21) rfl)) (hw _ (List.mem_of_getElem? (i := 22) rfl)) (hw _ (List.mem_of_getElem? (i := 23) rfl)) (hw _ (List.mem_of_getElem? (i := 24) rfl)) (by decide) pd_4 rfl (st_cmpA hw a ka cs d h0 q0_Sta q1_Sta q2_Sta q7_A hn hR) (by decide) rfl (by decide) (by decide) (by decide) rfl rfl (fun v69 h70 J71 q72 => ?_)
  obtain ⟨t73, kb74, rfl, le75, g76, K77, n78⟩ := q72
  show Wlk _ _ _ _ _ _ _ _ _ h70 2 30 39 #[.val (.ref s), .val (.ref a), .val (.int (0 : Int32)), .val (.int (Int32.ofNat cs.length)), .val .null, .unset] [(.ref t73)]
  rcases n78 with ⟨hlat, AA⟩ | ⟨hlat, AA⟩
  · skip
    refine Wlk.astore (pc' := 41) (Ls' := #[.val (.ref s), .val (.ref a), .val (.int (0 : Int32)), .val (.int (Int32.ofNat cs.length)), .val .null, .val (.ref t73)]) dc_jdk_42_method_149_code_39 rfl rfl rfl rfl ?_
    refine Wlk.aloadN (pc' := 42) (v := (.ref s)) dc_jdk_42_method_149_code_41 rfl rfl rfl ?_
    refine Wlk.aload (pc' := 44) (v := (.ref t73)) dc_jdk_42_method_149_code_42 rfl rfl rfl ?_
    refine Wlk.iloadN (pc' := 45) (v := (Int32.ofNat cs.length)) dc_jdk_42_method_149_code_44 rfl rfl ?_
    refine Wlk.callS (pc' := 48) (z := (⟨"java/lang/StringUTF16", "coderFromArrayLen", "([BI)B"⟩ : MethodName)) (argsL := [(.ref t73), (.int (Int32.ofNat cs.length))]) (st := [(.ref s)]) (W := 1) dc_jdk_42_method_149_code_45 (hw _ (List.mem_of_getElem? (i := 29) rfl)) (hw _ (List.mem_of_getElem? (i := 30) rfl)) (hw _ (List.mem_of_getElem? (i := 23) rfl)) (hw _ (List.mem_of_getElem? (i := 31) rfl)) (by decide) pd_6 rfl (st_cod hw t73 kb74 (Int32.ofNat cs.length) _ _ h70 AA) (by decide) rfl (by decide) (by decide) (by decide) rfl rfl (fun v79 h80 J81 q82 => ?_)
    obtain ⟨rfl, rfl⟩ := q82
    show Wlk _ _ _ _ _ _ _ _ _ h70 2 30 48 #[.val (.ref s), .val (.ref a), .val (.int (0 : Int32)), .val (.int (Int32.ofNat cs.length)), .val .null, .val (.ref t73)] [(.int (0 : Int32)), (.ref s)]
    have c83 := (q5_F.keep K77 nin0)
    have c84 := (q3_E.keep K77)
    refine Wlk.putF (pc' := 51) (ty := .byte) dc_jdk_42_method_149_code_48 (hw _ (List.mem_of_getElem? (i := 32) rfl)) Via.refl c83 c84 (Or.inr ⟨(hw _ (List.mem_of_getElem? (i := 33) rfl)), rfl, rfl⟩) (hw _ (List.mem_of_getElem? (i := 8) rfl)) (by decide) rfl rfl q6_G rfl (fun h86 W85 => ?_)
    have F87 := c83.same W85
    refine Wlk.aloadN (pc' := 52) (v := (.ref s)) dc_jdk_42_method_149_code_51 rfl rfl rfl ?_
    refine Wlk.aload (pc' := 54) (v := (.ref t73)) dc_jdk_42_method_149_code_52 rfl rfl rfl ?_
    have c88 := ((q4_F.keep K77 nin0).other W85 (Or.inr (slot_ne (Or.inr (hw _ (List.mem_of_getElem? (i := 35) rfl))) (Or.inr (hw _ (List.mem_of_getElem? (i := 33) rfl))) (by decide) (t := (.array .byte)) (t' := .byte) (by decide) (by decide))))
    have c89 := (c84.wr W85)
    refine Wlk.putF (pc' := 57) (ty := (.array .byte)) dc_jdk_42_method_149_code_54 (hw _ (List.mem_of_getElem? (i := 34) rfl)) Via.refl c88 c89 (Or.inr ⟨(hw _ (List.mem_of_getElem? (i := 35) rfl)), rfl, rfl⟩) (hw _ (List.mem_of_getElem? (i := 8) rfl)) (by decide) rfl rfl q6_G rfl (fun h91 W90 => ?_)
    have F92 := c88.same W90
    refine Wlk.return_ dc_jdk_42_method_149_code_57 rfl (by decide) (by decide) ?_
    have c93 := ((AA.other W85 (Ne.symm (Nat.ne_of_lt (Nat.lt_of_lt_of_le q3_E.lt (Nat.le_trans (Nat.le_refl _) le75))))).other W90 (Ne.symm (Nat.ne_of_lt (Nat.lt_of_lt_of_le q3_E.lt (Nat.le_trans (Nat.le_refl _) le75)))))
    have c94 := (c89.wr W90)
    have c95 := (F87.other W90 (Or.inr (slot_ne (Or.inr (hw _ (List.mem_of_getElem? (i := 33) rfl))) (Or.inr (hw _ (List.mem_of_getElem? (i := 35) rfl))) (by decide) (t := .byte) (t' := (.array .byte)) (by decide) (by decide))))
    exact ⟨t73, rfl, (Nat.le_trans (Nat.le_refl _) le75), g76, ((((Keep.refl h0 [s]).trans K77 all0).wr W85 (Or.inl (List.mem_of_getElem? (i := 0) rfl))).wr W90 (Or.inl (List.mem_of_getElem? (i := 0) rfl))), (Or.inl ⟨hlat, c94, F92, c95, kb74, c93⟩)⟩
  · skip
    refine Wlk.astore (pc' := 41) (Ls' := #[.val (.ref s), .val (.ref a), .val (.int (0 : Int32)), .val (.int (Int32.ofNat cs.length)), .val .null, .val (.ref t73)]) dc_jdk_42_method_149_code_39 rfl rfl rfl rfl ?_
    refine Wlk.aloadN (pc' := 42) (v := (.ref s)) dc_jdk_42_method_149_code_41 rfl rfl rfl ?_
    refine Wlk.aload (pc' := 44) (v := (.ref t73)) dc_jdk_42_method_149_code_42 rfl rfl rfl ?_
    refine Wlk.iloadN (pc' := 45) (v := (Int32.ofNat cs.length)) dc_jdk_42_method_149_code_44 rfl rfl ?_
    refine Wlk.callS (pc' := 48) (z := (⟨"java/lang/StringUTF16", "coderFromArrayLen", "([BI)B"⟩ : MethodName)) (argsL := [(.ref t73), (.int (Int32.ofNat cs.length))]) (st := [(.ref s)]) (W := 1) dc_jdk_42_method_149_code_45 (hw _ (List.mem_of_getElem? (i := 29) rfl)) (hw _ (List.mem_of_getElem? (i := 30) rfl)) (hw _ (List.mem_of_getElem? (i := 23) rfl)) (hw _ (List.mem_of_getElem? (i := 31) rfl)) (by decide) pd_6 rfl (st_codU hw t73 kb74 cs h70 AA hp (by omega)) (by decide) rfl (by decide) (by decide) (by decide) rfl rfl (fun v96 h97 J98 q99 => ?_)
    obtain ⟨rfl, rfl⟩ := q99
    show Wlk _ _ _ _ _ _ _ _ _ h70 2 30 48 #[.val (.ref s), .val (.ref a), .val (.int (0 : Int32)), .val (.int (Int32.ofNat cs.length)), .val .null, .val (.ref t73)] [(.int (1 : Int32)), (.ref s)]
    have c100 := (q5_F.keep K77 nin0)
    have c101 := (q3_E.keep K77)
    refine Wlk.putF (pc' := 51) (ty := .byte) dc_jdk_42_method_149_code_48 (hw _ (List.mem_of_getElem? (i := 32) rfl)) Via.refl c100 c101 (Or.inr ⟨(hw _ (List.mem_of_getElem? (i := 33) rfl)), rfl, rfl⟩) (hw _ (List.mem_of_getElem? (i := 8) rfl)) (by decide) rfl rfl q6_G rfl (fun h103 W102 => ?_)
    have F104 := c100.same W102
    refine Wlk.aloadN (pc' := 52) (v := (.ref s)) dc_jdk_42_method_149_code_51 rfl rfl rfl ?_
    refine Wlk.aload (pc' := 54) (v := (.ref t73)) dc_jdk_42_method_149_code_52 rfl rfl rfl ?_
    have c105 := ((q4_F.keep K77 nin0).other W102 (Or.inr (slot_ne (Or.inr (hw _ (List.mem_of_getElem? (i := 35) rfl))) (Or.inr (hw _ (List.mem_of_getElem? (i := 33) rfl))) (by decide) (t := (.array .byte)) (t' := .byte) (by decide) (by decide))))
    have c106 := (c101.wr W102)
    refine Wlk.putF (pc' := 57) (ty := (.array .byte)) dc_jdk_42_method_149_code_54 (hw _ (List.mem_of_getElem? (i := 34) rfl)) Via.refl c105 c106 (Or.inr ⟨(hw _ (List.mem_of_getElem? (i := 35) rfl)), rfl, rfl⟩) (hw _ (List.mem_of_getElem? (i := 8) rfl)) (by decide) rfl rfl q6_G rfl (fun h108 W107 => ?_)
    have F109 := c105.same W107
    refine Wlk.return_ dc_jdk_42_method_149_code_57 rfl (by decide) (by decide) ?_
    have c110 := ((AA.other W102 (Ne.symm (Nat.ne_of_lt (Nat.lt_of_lt_of_le q3_E.lt (Nat.le_trans (Nat.le_refl _) le75))))).other W107 (Ne.symm (Nat.ne_of_lt (Nat.lt_of_lt_of_le q3_E.lt (Nat.le_trans (Nat.le_refl _) le75)))))
    have c111 := (c106.wr W107)
    have c112 := (F104.other W107 (Or.inr (slot_ne (Or.inr (hw _ (List.mem_of_getElem? (i := 33) rfl))) (Or.inr (hw _ (List.mem_of_getElem? (i := 35) rfl))) (by decide) (t := .byte) (t' := (.array .byte)) (by decide) (by decide))))
    exact ⟨t73, rfl, (Nat.le_trans (Nat.le_refl _) le75), g76, ((((Keep.refl h0 [s]).trans K77 all0).wr W102 (Or.inl (List.mem_of_getElem? (i := 0) rfl))).wr W107 (Or.inl (List.mem_of_getElem? (i := 0) rfl))), (Or.inr ⟨hlat, c111, F109, c112, kb74, c110⟩)⟩

set_option maxRecDepth 65536 in
set_option maxHeartbeats 40000000 in
theorem st_ini1A {l : Launch} {Z : State} {a0 : Array Value} (hw : ∀ d ∈ tables_1, d.before a0 Z = true) (s : Addr) (a : Addr) (u1 : Value) (u2 : Value) (ka : ClassId) (cs : List Int32) (d : Value) (zc : Int32) (h0 : Heap) (q0_Sta : Sta Z Z.heap "java/lang/StringUTF16" "$assertionsDisabled" "Z" (.int (1 : Int32))) (q1_Sta : Sta Z Z.heap "java/lang/StringUTF16" "HI_BYTE_SHIFT" "I" (.int (0 : Int32))) (q2_Sta : Sta Z Z.heap "java/lang/StringUTF16" "LO_BYTE_SHIFT" "I" (.int (8 : Int32))) (q3_E : Exa Z h0 s "java/lang/String") (q4_F : Fld Z h0 s "java/lang/String" "value" "[B" u1) (q5_F : Fld Z h0 s "java/lang/String" "coder" "B" u2) (q6_G : Z.heap.size ≤ s) (q7_A : Arv Z h0 a ka .char (Int32.ofNat cs.length) (vC cs) d) (q8_Sta : Sta Z Z.heap "java/lang/String" "COMPACT_STRINGS" "Z" (.int zc)) (P3 : ¬ zc = 0) (hn : cs.length ≤ 10) (hp : 0 < cs.length) (hR : ∀ c ∈ cs, ¬ c < 0 ∧ ¬ (65535 : Int32) < c) :
    Met l Z (⟨"java/lang/String", "<init>", "([C)V"⟩ : MethodName) jdk_42_method_3_code 2 none false [] ({ frames := 5, cells := 2, slots := 30, locals := 74 } : Room) #[(.ref s), (.ref a)] h0 (false, [], []) (fun v h J' => ∃ (t : Addr), v = none ∧ h0.size ≤ t ∧ Z.heap.size ≤ t ∧ Keep h0 h [s] ∧ StrA Z h s t cs) := by
  refine Met.of_goes (Ls := #[.val (.ref s), .val (.ref a)]) (by first | exact plainFor_of_name (by first | (simp [plainName, overriddenIn]; done) | decide +kernel) | decide +kernel) (fun m => by first | (simp [entryFrame, mkF, argsToLocals, Value.category]; done) | rfl) rfl (fun G hGl => ?_)
  subst hGl
  refine Wlk.aloadN (pc' := 1) (v := (.ref s)) dc_jdk_42_method_3_code_0 rfl rfl rfl ?_
  refine Wlk.aloadN (pc' := 2) (v := (.ref a)) dc_jdk_42_method_3_code_1 rfl rfl rfl ?_
  refine Wlk.iconst (pc' := 3) (v := (0 : Int32)) dc_jdk_42_method_3_code_2 rfl rfl ?_
  refine Wlk.aloadN (pc' := 4) (v := (.ref a)) dc_jdk_42_method_3_code_3 rfl rfl rfl ?_
  refine Wlk.arraylength (pc' := 5) dc_jdk_42_method_3_code_4 q7_A rfl ?_
  refine Wlk.aconstNull (pc' := 6) dc_jdk_42_method_3_code_5 rfl ?_
  refine Wlk.callC (pc' := 9) (a := s) (z := (⟨"java/lang/String", "<init>", "([CIILjava/lang/Void;)V"⟩ : MethodName)) (argsL := [(.ref a), (.int (0 : Int32)), (.int (Int32.ofNat cs.length)), .null]) (st := []) (W := 0) dc_jdk_42_method_3_code_6 (hw _ (List.mem_of_getElem? (i := 13) rfl)) (hw _ (List.mem_of_getElem? (i := 14) rfl)) (hw _ (List.mem_of_getElem? (i := 9) rfl)) (hw _ (List.mem_of_getElem? (i := 16) rfl)) (by decide) rfl pd_7 rfl (st_ini4A hw s a u1 u2 ka cs d zc h0 q0_Sta q1_Sta q2_Sta q3_E q4_F q5_F q6_G q7_A q8_Sta P3 hn hp hR) (by decide) rfl (by decide) (by decide) (by decide) rfl rfl (fun v113 h114 J115 q116 => ?_)
  obtain ⟨t117, rfl, le118, g119, K120, n121⟩ := q116
  show Wlk _ _ _ _ _ _ _ _ _ h114 2 30 9 #[.val (.ref s), .val (.ref a)] []
  refine Wlk.return_ dc_jdk_42_method_3_code_9 rfl (by decide) (by decide) ?_
  exact ⟨t117, rfl, (Nat.le_trans (Nat.le_refl _) le118), g119, ((Keep.refl h0 [s]).trans K120 (allS (Or.inl (List.mem_of_getElem? (i := 0) rfl)) all0)), n121⟩

set_option maxRecDepth 65536 in
set_option maxHeartbeats 40000000 in
theorem st_l1eq {l : Launch} {Z : State} {a0 : Array Value} (hw : ∀ d ∈ tables_1, d.before a0 Z = true) (x y : Addr) (kx ky : ClassId) (xs ys : List Int32) (dx dy : Value) (h0 : Heap) (X1 : Arv Z h0 x kx .byte (Int32.ofNat xs.length) (vC xs) dx) (Y1 : Arv Z h0 y ky .byte (Int32.ofNat ys.length) (vC ys) dy) (hx : xs.length ≤ 10000) (hy : ys.length ≤ 10000) :
    Met l Z (⟨"java/lang/StringLatin1", "equals", "([B[B)Z"⟩ : MethodName) jdk_43_method_13_code 3 (some .boolean) false [] ({ frames := 0, cells := 0, slots := 0, locals := 0 } : Room) #[(.ref x), (.ref y)] h0 (false, [], []) (fun v h J => v = some (.int (if xs = ys then 1 else 0)) ∧ h0 = h) := by
  refine Met.of_goes (Ls := #[.val (.ref x), .val (.ref y), .unset]) (by first | exact plainFor_of_name (by first | (simp [plainName, overriddenIn]; done) | decide +kernel) | decide +kernel) (fun m => by first | (simp [entryFrame, mkF, argsToLocals, Value.category]; done) | rfl) rfl (fun G hGl => ?_)
  subst hGl
  refine Wlk.aloadN (pc' := 1) (v := (.ref x)) dc_jdk_43_method_13_code_0 rfl rfl rfl ?_
  refine Wlk.arraylength (pc' := 2) dc_jdk_43_method_13_code_1 X1 rfl ?_
  refine Wlk.aloadN (pc' := 3) (v := (.ref y)) dc_jdk_43_method_13_code_2 rfl rfl rfl ?_
  refine Wlk.arraylength (pc' := 4) dc_jdk_43_method_13_code_3 Y1 rfl ?_
  refine Wlk.ic_ (pcT := 34) (pcF := 7) dc_jdk_43_method_13_code_4 (by decide) (by decide) rfl (fun (hc122 : ¬ ((Int32.ofNat xs.length) = (Int32.ofNat ys.length))) => ?_) (fun (hc122 : (Int32.ofNat xs.length) = (Int32.ofNat ys.length)) => ?_)
  · skip
    refine Wlk.iconst (pc' := 35) (v := (0 : Int32)) dc_jdk_43_method_13_code_34 rfl rfl ?_
    refine Wlk.ireturnN (t := .boolean) dc_jdk_43_method_13_code_35 rfl (by simp) (by decide) (by decide) ?_
    exact ⟨by rw [if_neg (fun q => hc122 (by rw [q]))]; rfl, rfl⟩
  · skip
    have hlen : xs.length = ys.length := (i32_eq (by omega) (by omega)).mp hc122
    refine Wlk.iconst (pc' := 8) (v := (0 : Int32)) dc_jdk_43_method_13_code_7 rfl rfl ?_
    refine Wlk.istoreN (pc' := 9) (Ls' := #[.val (.ref x), .val (.ref y), .val (.int (0 : Int32))]) dc_jdk_43_method_13_code_8 rfl rfl rfl ?_
    have loop : ∀ (r1 r2 pre : List Int32), xs = pre ++ r1 → ys = pre ++ r2 → Wlk G ({ frames := 0, cells := 0, slots := 0, locals := 0 } : Room) Z (⟨"java/lang/StringLatin1", "equals", "([B[B)Z"⟩ : MethodName) jdk_43_method_13_code (some .boolean) false (false, [], []) (fun v h J => v = some (.int (if xs = ys then 1 else 0)) ∧ h0 = h) h0 0 0 9 #[.val (.ref x), .val (.ref y), .val (.int (Int32.ofNat pre.length))] [] := by
      intro r1
      induction r1 with
      | nil =>
        intro r2 pre e1 e2
        have h2 : r2 = [] := by
          have := hlen
          rw [e1, e2] at this
          simp at this
          exact this
        subst h2
        have exy : xs = ys := e1.trans e2.symm
        rw [List.append_nil] at e1
        subst e1
        refine Wlk.iloadN (pc' := 10) (v := (Int32.ofNat xs.length)) dc_jdk_43_method_13_code_9 rfl rfl ?_
        refine Wlk.aloadN (pc' := 11) (v := (.ref x)) dc_jdk_43_method_13_code_10 rfl rfl rfl ?_
        refine Wlk.arraylength (pc' := 12) dc_jdk_43_method_13_code_11 X1 rfl ?_
        refine Wlk.icT (pc' := 32) dc_jdk_43_method_13_code_12 (by decide) (by decide) (show ¬ ((Int32.ofNat xs.length) < (Int32.ofNat xs.length)) from (fun q => absurd ((i32_lt (by omega) (by omega)).mp q) (Nat.lt_irrefl _))) ?_
        refine Wlk.iconst (pc' := 33) (v := (1 : Int32)) dc_jdk_43_method_13_code_32 rfl rfl ?_
        refine Wlk.ireturnN (t := .boolean) dc_jdk_43_method_13_code_33 rfl (by simp) (by decide) (by decide) ?_
        exact ⟨by rw [if_pos exy]; rfl, rfl⟩
      | cons u r1 ih =>
        intro r2 pre e1 e2
        have hl : xs.length = pre.length + (r1.length + 1) := by rw [e1]; simp
        cases r2 with
        | nil =>
          exfalso
          have := hlen
          rw [hl, e2] at this
          simp at this
        | cons v r2 =>
          have hl2 : ys.length = pre.length + (r2.length + 1) := by rw [e2]; simp
          refine Wlk.iloadN (pc' := 10) (v := (Int32.ofNat pre.length)) dc_jdk_43_method_13_code_9 rfl rfl ?_
          refine Wlk.aloadN (pc' := 11) (v := (.ref x)) dc_jdk_43_method_13_code_10 rfl rfl rfl ?_
          refine Wlk.arraylength (pc' := 12) dc_jdk_43_method_13_code_11 X1 rfl ?_
          refine Wlk.icF (pc' := 15) dc_jdk_43_method_13_code_12 (show (Int32.ofNat pre.length) < (Int32.ofNat xs.length) from ((i32_lt (by omega) (by omega)).mpr (by omega))) rfl ?_
          refine Wlk.aloadN (pc' := 16) (v := (.ref x)) dc_jdk_43_method_13_code_15 rfl rfl rfl ?_
          refine Wlk.iloadN (pc' := 17) (v := (Int32.ofNat pre.length)) dc_jdk_43_method_13_code_16 rfl rfl ?_
          refine Wlk.baload (pc' := 18) (v := (.int u)) dc_jdk_43_method_13_code_17 X1 ⟨i32_nn (by omega), (i32_lt (by omega) (by omega)).mpr (by omega)⟩ (by rw [i32_cl (by omega), e1]; simp [vC]) rfl ?_
          refine Wlk.aloadN (pc' := 19) (v := (.ref y)) dc_jdk_43_method_13_code_18 rfl rfl rfl ?_
          refine Wlk.iloadN (pc' := 20) (v := (Int32.ofNat pre.length)) dc_jdk_43_method_13_code_19 rfl rfl ?_
          refine Wlk.baload (pc' := 21) (v := (.int v)) dc_jdk_43_method_13_code_20 Y1 ⟨i32_nn (by omega), (i32_lt (by omega) (by omega)).mpr (by omega)⟩ (by rw [i32_cl (by omega), e2]; simp [vC]) rfl ?_
          refine Wlk.ic_ (pcT := 26) (pcF := 24) dc_jdk_43_method_13_code_21 (by decide) (by decide) rfl (fun (hc123 : u = v) => ?_) (fun (hc123 : ¬ (u = v)) => ?_)
          · skip
            refine Wlk.iinc (pc' := 29) (v := (1 : Int32)) (x := (Int32.ofNat pre.length)) (Ls' := #[.val (.ref x), .val (.ref y), .val (.int ((Int32.ofNat pre.length) + (1 : Int32)))]) dc_jdk_43_method_13_code_26 (by decide) rfl rfl rfl rfl ?_
            refine Wlk.goto (pc' := 9) dc_jdk_43_method_13_code_29 (by decide) (by decide) ?_
            have e3 : Int32.ofNat pre.length + 1 = Int32.ofNat (pre ++ [u]).length := by rw [i32_succ]; simp
            rw [e3]
            exact ih r2 (pre ++ [u]) (by rw [e1]; simp) (by rw [e2, hc123]; simp)
          · skip
            refine Wlk.iconst (pc' := 25) (v := (0 : Int32)) dc_jdk_43_method_13_code_24 rfl rfl ?_
            refine Wlk.ireturnN (t := .boolean) dc_jdk_43_method_13_code_25 rfl (by simp) (by decide) (by decide) ?_
            exact ⟨by rw [if_neg (fun q => hc123 (by rw [e1, e2] at q; exact (List.cons.inj (List.append_cancel_left q)).1))]; rfl, rfl⟩
    exact loop xs ys [] rfl rfl

set_option maxRecDepth 65536 in
set_option maxHeartbeats 40000000 in
theorem st_eqA {l : Launch} {Z : State} {a0 : Array Value} (hw : ∀ d ∈ tables_1, d.before a0 Z = true) (c s tc t : Addr) (ds cs : List Int32) (h0 : Heap) (S1 : StrL Z h0 c tc ds) (S2 : StrA Z h0 s t cs) (zc : Int32) (O2 : Sta Z Z.heap "java/lang/String" "COMPACT_STRINGS" "Z" (.int zc)) (P3 : ¬ zc = 0) (hds : ∀ x ∈ ds, ¬ x < 0 ∧ ¬ (255 : Int32) < x) (hcs : ∀ x ∈ cs, ¬ x < 0) (ld : ds.length ≤ 4000) (lc : cs.length ≤ 4000) :
    Met l Z (⟨"java/lang/String", "equals", "(Ljava/lang/Object;)Z"⟩ : MethodName) jdk_42_method_66_code 3 (some .boolean) false [] ({ frames := 1, cells := 0, slots := 0, locals := 14 } : Room) #[(.ref c), (.ref s)] h0 (false, [], []) (fun v h J => v = some (.int (if cs = ds then (1 : Int32) else 0)) ∧ h0 = h) := by
  refine Met.of_goes (Ls := #[.val (.ref c), .val (.ref s), .unset]) (by first | exact plainFor_of_name (by first | (simp [plainName, overriddenIn]; done) | decide +kernel) | decide +kernel) (fun m => by first | (simp [entryFrame, mkF, argsToLocals, Value.category]; done) | rfl) rfl (fun G hGl => ?_)
  subst hGl
  refine Wlk.aloadN (pc' := 1) (v := (.ref c)) dc_jdk_42_method_66_code_0 rfl rfl rfl ?_
  refine Wlk.aloadN (pc' := 2) (v := (.ref s)) dc_jdk_42_method_66_code_1 rfl rfl rfl ?_
  by_cases hcs2 : c = s
  · skip
    refine Wlk.acmp (pc' := 5) (same := true) dc_jdk_42_method_66_code_2 rfl rfl (decide_eq_true (congrArg Value.ref hcs2)) (by decide) (by decide) ?_
    refine Wlk.iconst (pc' := 6) (v := (1 : Int32)) dc_jdk_42_method_66_code_5 rfl rfl ?_
    refine Wlk.ireturnN (t := .boolean) dc_jdk_42_method_66_code_6 rfl (by simp) (by decide) (by decide) ?_
    subst hcs2
    have ecs : cs = ds := by
      rcases S2 with ⟨hlat, S⟩ | ⟨hlat, -, -, q, -⟩
      · exact vL_inj (fun x hx => ⟨hcs x hx, lat_mem hlat x hx⟩) hds (S.inj S1 (by omega) (by omega))
      · have := Fld.fun1 q S1.2.2.1
        injection this with this
        exact absurd this (by decide)
    exact ⟨by rw [if_pos ecs]; rfl, rfl⟩
  · skip
    refine Wlk.acmp (pc' := 7) (same := false) dc_jdk_42_method_66_code_2 rfl rfl (decide_eq_false fun q => hcs2 (Value.ref.inj q)) (by decide) (by decide) ?_
    refine Wlk.aloadN (pc' := 8) (v := (.ref s)) dc_jdk_42_method_66_code_7 rfl rfl rfl ?_
    refine Wlk.instY (pc' := 11) dc_jdk_42_method_66_code_8 (hw _ (List.mem_of_getElem? (i := 48) rfl)) (Ins.self S2.exa) rfl ?_
    refine Wlk.ifF (pc' := 14) dc_jdk_42_method_66_code_11 (show ¬ ((1 : Int32) = (0 : Int32)) from by decide) rfl ?_
    refine Wlk.aloadN (pc' := 15) (v := (.ref s)) dc_jdk_42_method_66_code_14 rfl rfl rfl ?_
    refine Wlk.castY (pc' := 18) dc_jdk_42_method_66_code_15 (hw _ (List.mem_of_getElem? (i := 48) rfl)) (Ins.self S2.exa) rfl ?_
    refine Wlk.astoreN (pc' := 19) (Ls' := #[.val (.ref c), .val (.ref s), .val (.ref s)]) dc_jdk_42_method_66_code_18 rfl rfl rfl rfl ?_
    refine Wlk.getS (pc' := 22) (v := (.int zc)) dc_jdk_42_method_66_code_19 (hw _ (List.mem_of_getElem? (i := 20) rfl)) Via.refl O2 rfl ?_
    refine Wlk.ifF (pc' := 25) dc_jdk_42_method_66_code_22 (show ¬ (zc = (0 : Int32)) from P3) rfl ?_
    obtain ⟨-, Vc, Cc, kc, Ac⟩ := S1
    rcases S2 with ⟨hlat, S⟩ | ⟨hlat, S⟩
    · skip
      obtain ⟨-, Vs, Cs, ks, As⟩ := S
      have Ac' : Arv Z h0 tc kc .byte (Int32.ofNat (ds.map bL).length) (vC (ds.map bL)) (.int 0) := by rw [List.length_map, ← vL_vC]; exact Ac
      have As' : Arv Z h0 t ks .byte (Int32.ofNat (cs.map bL).length) (vC (cs.map bL)) (.int 0) := by rw [List.length_map, ← vL_vC]; exact As
      refine Wlk.aloadN (pc' := 26) (v := (.ref c)) dc_jdk_42_method_66_code_25 rfl rfl rfl ?_
      refine Wlk.getF (pc' := 29) (v := (.int (0 : Int32))) dc_jdk_42_method_66_code_26 (hw _ (List.mem_of_getElem? (i := 32) rfl)) Via.refl Cc rfl ?_
      refine Wlk.aloadN (pc' := 30) (v := (.ref s)) dc_jdk_42_method_66_code_29 rfl rfl rfl ?_
      refine Wlk.getF (pc' := 33) (v := (.int (0 : Int32))) dc_jdk_42_method_66_code_30 (hw _ (List.mem_of_getElem? (i := 32) rfl)) Via.refl Cs rfl ?_
      refine Wlk.icF (pc' := 36) dc_jdk_42_method_66_code_33 (show (0 : Int32) = (0 : Int32) from by decide) rfl ?_
      refine Wlk.aloadN (pc' := 37) (v := (.ref c)) dc_jdk_42_method_66_code_36 rfl rfl rfl ?_
      refine Wlk.getF (pc' := 40) (v := (.ref tc)) dc_jdk_42_method_66_code_37 (hw _ (List.mem_of_getElem? (i := 34) rfl)) Via.refl Vc rfl ?_
      refine Wlk.aloadN (pc' := 41) (v := (.ref s)) dc_jdk_42_method_66_code_40 rfl rfl rfl ?_
      refine Wlk.getF (pc' := 44) (v := (.ref t)) dc_jdk_42_method_66_code_41 (hw _ (List.mem_of_getElem? (i := 34) rfl)) Via.refl Vs rfl ?_
      refine Wlk.callS (pc' := 47) (z := (⟨"java/lang/StringLatin1", "equals", "([B[B)Z"⟩ : MethodName)) (argsL := [(.ref tc), (.ref t)]) (st := []) (W := 0) dc_jdk_42_method_66_code_44 (hw _ (List.mem_of_getElem? (i := 49) rfl)) (hw _ (List.mem_of_getElem? (i := 50) rfl)) (hw _ (List.mem_of_getElem? (i := 51) rfl)) (hw _ (List.mem_of_getElem? (i := 52) rfl)) (by decide) pd_8 rfl (st_l1eq hw tc t kc ks (ds.map bL) (cs.map bL) _ _ h0 Ac' As' (by simpa using (by omega : ds.length ≤ 10000)) (by simpa using (by omega : cs.length ≤ 10000))) (by decide) rfl (by decide) (by decide) (by decide) rfl rfl (fun v124 h125 J126 q127 => ?_)
      obtain ⟨rfl, rfl⟩ := q127
      show Wlk _ _ _ _ _ _ _ _ _ h0 0 0 47 #[.val (.ref c), .val (.ref s), .val (.ref s)] [(.int (if ds.map bL = cs.map bL then (1 : Int32) else 0))]
      refine Wlk.if_ (pcT := 54) (pcF := 50) dc_jdk_42_method_66_code_47 (by decide) (by decide) rfl (fun (hc128 : (if ds.map bL = cs.map bL then (1 : Int32) else 0) = (0 : Int32)) => ?_) (fun (hc128 : ¬ ((if ds.map bL = cs.map bL then (1 : Int32) else 0) = (0 : Int32))) => ?_)
      · skip
        refine Wlk.iconst (pc' := 55) (v := (0 : Int32)) dc_jdk_42_method_66_code_54 rfl rfl ?_
        refine Wlk.ireturnN (t := .boolean) dc_jdk_42_method_66_code_55 rfl (by simp) (by decide) (by decide) ?_
        refine ⟨?_, rfl⟩
        by_cases ecs : cs = ds
        · subst ecs; simp_all [nar]
        · have ne : ¬ (ds.map bL = cs.map bL) := fun q => ecs (vL_inj (fun x hx => ⟨hcs x hx, lat_mem hlat x hx⟩) hds q.symm)
          simp_all [nar]
      · skip
        refine Wlk.iconst (pc' := 51) (v := (1 : Int32)) dc_jdk_42_method_66_code_50 rfl rfl ?_
        refine Wlk.goto (pc' := 55) dc_jdk_42_method_66_code_51 (by decide) (by decide) ?_
        refine Wlk.ireturnN (t := .boolean) dc_jdk_42_method_66_code_55 rfl (by simp) (by decide) (by decide) ?_
        refine ⟨?_, rfl⟩
        by_cases ecs : cs = ds
        · subst ecs; simp_all [nar]
        · have ne : ¬ (ds.map bL = cs.map bL) := fun q => ecs (vL_inj (fun x hx => ⟨hcs x hx, lat_mem hlat x hx⟩) hds q.symm)
          simp_all [nar]
    · skip
      obtain ⟨-, Vs, Cs, -⟩ := S
      refine Wlk.aloadN (pc' := 26) (v := (.ref c)) dc_jdk_42_method_66_code_25 rfl rfl rfl ?_
      refine Wlk.getF (pc' := 29) (v := (.int (0 : Int32))) dc_jdk_42_method_66_code_26 (hw _ (List.mem_of_getElem? (i := 32) rfl)) Via.refl Cc rfl ?_
      refine Wlk.aloadN (pc' := 30) (v := (.ref s)) dc_jdk_42_method_66_code_29 rfl rfl rfl ?_
      refine Wlk.getF (pc' := 33) (v := (.int (1 : Int32))) dc_jdk_42_method_66_code_30 (hw _ (List.mem_of_getElem? (i := 32) rfl)) Via.refl Cs rfl ?_
      refine Wlk.icT (pc' := 54) dc_jdk_42_method_66_code_33 (by decide) (by decide) (show ¬ ((0 : Int32) = (1 : Int32)) from by decide) ?_
      refine Wlk.iconst (pc' := 55) (v := (0 : Int32)) dc_jdk_42_method_66_code_54 rfl rfl ?_
      refine Wlk.ireturnN (t := .boolean) dc_jdk_42_method_66_code_55 rfl (by simp) (by decide) (by decide) ?_
      exact ⟨by rw [if_neg (fun (q : cs = ds) => hlat (lat_all (fun x hx => (hds x (q ▸ hx)).2)))]; rfl, rfl⟩

set_option maxRecDepth 65536 in
set_option maxHeartbeats 40000000 in
theorem st_emp4c {l : Launch} {Z : State} {a0 : Array Value} (hw : ∀ d ∈ tables_1, d.before a0 Z = true) (s : Addr) (a : Addr) (u2 : Value) (ka : ClassId) (vs : List Value) (d : Value) (Ts : List String) (Lt : List (String × Nat × Addr)) (h0 : Heap) (q0_E : Exa Z h0 s "java/lang/String") (q1_F : Fld Z h0 s "java/lang/String" "value" "[B" .null) (q2_F : Fld Z h0 s "java/lang/String" "coder" "B" u2) (q3_G : Z.heap.size ≤ s) (q4_A : Arv Z h0 a ka .char (0 : Int32) vs d) (wS : ∀ a ∈ Bundle.stringAtoms, a.before a0 Z = true) (hcw : Jvm.Lit.compactW.before a0 Z = true) (hh_7 : Jvm.Lit.constHeld Z "java/lang/String" 7) (hnT : "" ∉ Ts) :
    Met l Z (⟨"java/lang/String", "<init>", "([CIILjava/lang/Void;)V"⟩ : MethodName) jdk_42_method_149_code 6 none true [] ({ frames := 1, cells := 2, slots := 4, locals := 12 } : Room) #[(.ref s), (.ref a), (.int (0 : Int32)), (.int (0 : Int32)), .null] h0 (true, Ts, Lt) (fun v h J' => ∃ (c : Addr) (cb : Addr) (kb : ClassId), v = none ∧ Keep h0 h [s] ∧ Exa Z h c "java/lang/String" ∧ Fld Z h c "java/lang/String" "value" "[B" (.ref cb) ∧ Fld Z h c "java/lang/String" "coder" "B" (.int (0 : Int32)) ∧ Arv Z h cb kb .byte (0 : Int32) [] (.int 0) ∧ Exa Z h s "java/lang/String" ∧ Fld Z h s "java/lang/String" "value" "[B" (.ref cb) ∧ Fld Z h s "java/lang/String" "coder" "B" (.int (0 : Int32)) ∧ J' = (true, "" :: Ts, ("java/lang/String", 7, c) :: Lt)) := by
  refine Met.of_goes (Ls := #[.val (.ref s), .val (.ref a), .val (.int (0 : Int32)), .val (.int (0 : Int32)), .val .null, .unset]) (by first | exact plainFor_of_name (by first | (simp [plainName, overriddenIn]; done) | decide +kernel) | decide +kernel) (fun m => by first | (simp [entryFrame, mkF, argsToLocals, Value.category]; done) | rfl) rfl (fun G hGl => ?_)
  subst hGl
  refine Wlk.aloadN (pc' := 1) (v := (.ref s)) dc_jdk_42_method_149_code_0 rfl rfl rfl ?_
  refine Wlk.initO (pc' := 4) (W := 0) dc_jdk_42_method_149_code_1 (hw _ (List.mem_of_getElem? (i := 17) rfl)) (hw _ (List.mem_of_getElem? (i := 18) rfl)) (hw _ (List.mem_of_getElem? (i := 19) rfl)) (by decide) rfl (by decide) rfl ?_
  refine Wlk.iloadN (pc' := 5) (v := (0 : Int32)) dc_jdk_42_method_149_code_4 rfl rfl ?_
  refine Wlk.ifF (pc' := 8) dc_jdk_42_method_149_code_5 (show (0 : Int32) = (0 : Int32) from by decide) rfl ?_
  refine Wlk.aloadN (pc' := 9) (v := (.ref s)) dc_jdk_42_method_149_code_8 rfl rfl rfl ?_
  refine Wlk.ldcNew (pc' := 11) (text := "") (nn := 0) (vs := []) (z := (0 : Int32)) dc_jdk_42_method_149_code_9 (hw _ (List.mem_of_getElem? (i := 53) rfl)) wS hnT hh_7 hcw ⟨by decide, by decide⟩ (by decide) (by decide) (by decide) (by decide) (by decide) (by decide) rfl (fun ca129 cb130 kb131 h132 E133 A134 A135 A136 A137 => ?_)
  have c139 := (q1_F.ext E133)
  have ne138 : ca129 ≠ s := Fld.ne A136 c139 nofun
  refine Wlk.getF (pc' := 14) (v := (.ref cb130)) dc_jdk_42_method_149_code_11 (hw _ (List.mem_of_getElem? (i := 34) rfl)) Via.refl A136 rfl ?_
  have c140 := (q0_E.ext E133)
  refine Wlk.putF (pc' := 17) (ty := (.array .byte)) dc_jdk_42_method_149_code_14 (hw _ (List.mem_of_getElem? (i := 34) rfl)) Via.refl c139 c140 (Or.inr ⟨(hw _ (List.mem_of_getElem? (i := 35) rfl)), rfl, rfl⟩) (hw _ (List.mem_of_getElem? (i := 8) rfl)) (by decide) rfl rfl q3_G rfl (fun h142 W141 => ?_)
  have F143 := c139.same W141
  refine Wlk.aloadN (pc' := 18) (v := (.ref s)) dc_jdk_42_method_149_code_17 rfl rfl rfl ?_
  refine Wlk.ldcOld (pc' := 20) (text := "") (a := ca129) dc_jdk_42_method_149_code_18 (hw _ (List.mem_of_getElem? (i := 53) rfl)) (by simp) rfl ?_
  have c144 := (A135.other W141 (Or.inl ne138))
  refine Wlk.getF (pc' := 23) (v := (.int (0 : Int32))) dc_jdk_42_method_149_code_20 (hw _ (List.mem_of_getElem? (i := 32) rfl)) Via.refl c144 rfl ?_
  have c145 := ((q2_F.ext E133).other W141 (Or.inr (slot_ne (Or.inr (hw _ (List.mem_of_getElem? (i := 33) rfl))) (Or.inr (hw _ (List.mem_of_getElem? (i := 35) rfl))) (by decide) (t := .byte) (t' := (.array .byte)) (by decide) (by decide))))
  have c146 := (c140.wr W141)
  refine Wlk.putF (pc' := 26) (ty := .byte) dc_jdk_42_method_149_code_23 (hw _ (List.mem_of_getElem? (i := 32) rfl)) Via.refl c145 c146 (Or.inr ⟨(hw _ (List.mem_of_getElem? (i := 33) rfl)), rfl, rfl⟩) (hw _ (List.mem_of_getElem? (i := 8) rfl)) (by decide) rfl rfl q3_G rfl (fun h148 W147 => ?_)
  have F149 := c145.same W147
  refine Wlk.return_ dc_jdk_42_method_149_code_26 rfl (by decide) (by decide) ?_
  have c150 := ((A134.wr W141).wr W147)
  have c151 := ((A136.other W141 (Or.inl ne138)).other W147 (Or.inl ne138))
  have c152 := (c144.other W147 (Or.inl ne138))
  have c153 := ((A137.other W141 (Ne.symm (Exa.neArv (q0_E.ext E133) A137 (hw _ (List.mem_of_getElem? (i := 8) rfl))))).other W147 (Ne.symm (Exa.neArv (q0_E.ext E133) A137 (hw _ (List.mem_of_getElem? (i := 8) rfl)))))
  have c154 := (c146.wr W147)
  have c155 := (F143.other W147 (Or.inr (slot_ne (Or.inr (hw _ (List.mem_of_getElem? (i := 35) rfl))) (Or.inr (hw _ (List.mem_of_getElem? (i := 33) rfl))) (by decide) (t := (.array .byte)) (t' := .byte) (by decide) (by decide))))
  exact ⟨ca129, cb130, kb131, rfl, ((((Keep.refl h0 [s]).ext E133).wr W141 (Or.inl (List.mem_of_getElem? (i := 0) rfl))).wr W147 (Or.inl (List.mem_of_getElem? (i := 0) rfl))), c150, c151, c152, c153, c154, c155, F149, rfl⟩

set_option maxRecDepth 65536 in
set_option maxHeartbeats 40000000 in
theorem st_emp1c {l : Launch} {Z : State} {a0 : Array Value} (hw : ∀ d ∈ tables_1, d.before a0 Z = true) (s : Addr) (a : Addr) (u2 : Value) (ka : ClassId) (vs : List Value) (d : Value) (Ts : List String) (Lt : List (String × Nat × Addr)) (h0 : Heap) (q0_E : Exa Z h0 s "java/lang/String") (q1_F : Fld Z h0 s "java/lang/String" "value" "[B" .null) (q2_F : Fld Z h0 s "java/lang/String" "coder" "B" u2) (q3_G : Z.heap.size ≤ s) (q4_A : Arv Z h0 a ka .char (0 : Int32) vs d) (wS : ∀ a ∈ Bundle.stringAtoms, a.before a0 Z = true) (hcw : Jvm.Lit.compactW.before a0 Z = true) (hh_7 : Jvm.Lit.constHeld Z "java/lang/String" 7) (hnT : "" ∉ Ts) :
    Met l Z (⟨"java/lang/String", "<init>", "([C)V"⟩ : MethodName) jdk_42_method_3_code 2 none true [] ({ frames := 2, cells := 2, slots := 4, locals := 29 } : Room) #[(.ref s), (.ref a)] h0 (true, Ts, Lt) (fun v h J' => ∃ (c : Addr) (cb : Addr) (kb : ClassId), v = none ∧ Keep h0 h [s] ∧ Exa Z h c "java/lang/String" ∧ Fld Z h c "java/lang/String" "value" "[B" (.ref cb) ∧ Fld Z h c "java/lang/String" "coder" "B" (.int (0 : Int32)) ∧ Arv Z h cb kb .byte (0 : Int32) [] (.int 0) ∧ Exa Z h s "java/lang/String" ∧ Fld Z h s "java/lang/String" "value" "[B" (.ref cb) ∧ Fld Z h s "java/lang/String" "coder" "B" (.int (0 : Int32)) ∧ J' = (true, "" :: Ts, ("java/lang/String", 7, c) :: Lt)) := by
  refine Met.of_goes (Ls := #[.val (.ref s), .val (.ref a)]) (by first | exact plainFor_of_name (by first | (simp [plainName, overriddenIn]; done) | decide +kernel) | decide +kernel) (fun m => by first | (simp [entryFrame, mkF, argsToLocals, Value.category]; done) | rfl) rfl (fun G hGl => ?_)
  subst hGl
  refine Wlk.aloadN (pc' := 1) (v := (.ref s)) dc_jdk_42_method_3_code_0 rfl rfl rfl ?_
  refine Wlk.aloadN (pc' := 2) (v := (.ref a)) dc_jdk_42_method_3_code_1 rfl rfl rfl ?_
  refine Wlk.iconst (pc' := 3) (v := (0 : Int32)) dc_jdk_42_method_3_code_2 rfl rfl ?_
  refine Wlk.aloadN (pc' := 4) (v := (.ref a)) dc_jdk_42_method_3_code_3 rfl rfl rfl ?_
  refine Wlk.arraylength (pc' := 5) dc_jdk_42_method_3_code_4 q4_A rfl ?_
  refine Wlk.aconstNull (pc' := 6) dc_jdk_42_method_3_code_5 rfl ?_
  refine Wlk.callCw (pc' := 9) (a := s) (z := (⟨"java/lang/String", "<init>", "([CIILjava/lang/Void;)V"⟩ : MethodName)) (argsL := [(.ref a), (.int (0 : Int32)), (.int (0 : Int32)), .null]) (st := []) (W := 0) dc_jdk_42_method_3_code_6 (hw _ (List.mem_of_getElem? (i := 13) rfl)) (hw _ (List.mem_of_getElem? (i := 14) rfl)) (hw _ (List.mem_of_getElem? (i := 9) rfl)) (hw _ (List.mem_of_getElem? (i := 16) rfl)) (by decide) rfl pd_7 rfl (st_emp4c hw s a u2 ka vs d Ts Lt h0 q0_E q1_F q2_F q3_G q4_A wS hcw hh_7 (by first | exact hnT | decide)) (by decide) rfl (by decide) (by decide) (by decide) rfl rfl (fun v156 h157 J158 q159 => ?_)
  obtain ⟨c160, cb161, kb162, rfl, K163, n164, n165, n166, n167, n168, n169, n170, rfl⟩ := q159
  show Wlk _ _ _ _ _ _ _ _ _ h157 2 4 9 #[.val (.ref s), .val (.ref a)] []
  refine Wlk.return_ dc_jdk_42_method_3_code_9 rfl (by decide) (by decide) ?_
  exact ⟨c160, cb161, kb162, rfl, ((Keep.refl h0 [s]).trans K163 (allS (Or.inl (List.mem_of_getElem? (i := 0) rfl)) all0)), n164, n165, n166, n167, n168, n169, n170, rfl⟩

set_option maxRecDepth 65536 in
set_option maxHeartbeats 40000000 in
theorem st_emp4w {l : Launch} {Z : State} {a0 : Array Value} (hw : ∀ d ∈ tables_1, d.before a0 Z = true) (s : Addr) (a : Addr) (u2 : Value) (ka : ClassId) (vs : List Value) (d : Value) (c : Addr) (cb : Addr) (kb : ClassId) (Ts : List String) (Lt : List (String × Nat × Addr)) (h0 : Heap) (q0_E : Exa Z h0 s "java/lang/String") (q1_F : Fld Z h0 s "java/lang/String" "value" "[B" .null) (q2_F : Fld Z h0 s "java/lang/String" "coder" "B" u2) (q3_G : Z.heap.size ≤ s) (q4_A : Arv Z h0 a ka .char (0 : Int32) vs d) (q5_E : Exa Z h0 c "java/lang/String") (q6_F : Fld Z h0 c "java/lang/String" "value" "[B" (.ref cb)) (q7_F : Fld Z h0 c "java/lang/String" "coder" "B" (.int (0 : Int32))) (q8_A : Arv Z h0 cb kb .byte (0 : Int32) [] (.int 0)) (q9_NE : c ≠ s) (q10_NE : cb ≠ s) (hin : ("java/lang/String", 7, c) ∈ Lt) :
    Met l Z (⟨"java/lang/String", "<init>", "([CIILjava/lang/Void;)V"⟩ : MethodName) jdk_42_method_149_code 6 none true [] ({ frames := 1, cells := 0, slots := 0, locals := 12 } : Room) #[(.ref s), (.ref a), (.int (0 : Int32)), (.int (0 : Int32)), .null] h0 (true, Ts, Lt) (fun v h J' => v = none ∧ Keep h0 h [s] ∧ Exa Z h c "java/lang/String" ∧ Fld Z h c "java/lang/String" "value" "[B" (.ref cb) ∧ Fld Z h c "java/lang/String" "coder" "B" (.int (0 : Int32)) ∧ Arv Z h cb kb .byte (0 : Int32) [] (.int 0) ∧ Exa Z h s "java/lang/String" ∧ Fld Z h s "java/lang/String" "value" "[B" (.ref cb) ∧ Fld Z h s "java/lang/String" "coder" "B" (.int (0 : Int32)) ∧ J' = (true, Ts, Lt)) := by
  refine Met.of_goes (Ls := #[.val (.ref s), .val (.ref a), .val (.int (0 : Int32)), .val (.int (0 : Int32)), .val .null, .unset]) (by first | exact plainFor_of_name (by first | (simp [plainName, overriddenIn]; done) | decide +kernel) | decide +kernel) (fun m => by first | (simp [entryFrame, mkF, argsToLocals, Value.category]; done) | rfl) rfl (fun G hGl => ?_)
  subst hGl
  refine Wlk.aloadN (pc' := 1) (v := (.ref s)) dc_jdk_42_method_149_code_0 rfl rfl rfl ?_
  refine Wlk.initO (pc' := 4) (W := 0) dc_jdk_42_method_149_code_1 (hw _ (List.mem_of_getElem? (i := 17) rfl)) (hw _ (List.mem_of_getElem? (i := 18) rfl)) (hw _ (List.mem_of_getElem? (i := 19) rfl)) (by decide) rfl (by decide) rfl ?_
  refine Wlk.iloadN (pc' := 5) (v := (0 : Int32)) dc_jdk_42_method_149_code_4 rfl rfl ?_
  refine Wlk.ifF (pc' := 8) dc_jdk_42_method_149_code_5 (show (0 : Int32) = (0 : Int32) from by decide) rfl ?_
  refine Wlk.aloadN (pc' := 9) (v := (.ref s)) dc_jdk_42_method_149_code_8 rfl rfl rfl ?_
  refine Wlk.ldcOld (pc' := 11) (text := "") (a := c) dc_jdk_42_method_149_code_9 (hw _ (List.mem_of_getElem? (i := 53) rfl)) hin rfl ?_
  refine Wlk.getF (pc' := 14) (v := (.ref cb)) dc_jdk_42_method_149_code_11 (hw _ (List.mem_of_getElem? (i := 34) rfl)) Via.refl q6_F rfl ?_
  refine Wlk.putF (pc' := 17) (ty := (.array .byte)) dc_jdk_42_method_149_code_14 (hw _ (List.mem_of_getElem? (i := 34) rfl)) Via.refl q1_F q0_E (Or.inr ⟨(hw _ (List.mem_of_getElem? (i := 35) rfl)), rfl, rfl⟩) (hw _ (List.mem_of_getElem? (i := 8) rfl)) (by decide) rfl rfl q3_G rfl (fun h172 W171 => ?_)
  have F173 := q1_F.same W171
  refine Wlk.aloadN (pc' := 18) (v := (.ref s)) dc_jdk_42_method_149_code_17 rfl rfl rfl ?_
  refine Wlk.ldcOld (pc' := 20) (text := "") (a := c) dc_jdk_42_method_149_code_18 (hw _ (List.mem_of_getElem? (i := 53) rfl)) hin rfl ?_
  have c174 := (q7_F.other W171 (Or.inl q9_NE))
  refine Wlk.getF (pc' := 23) (v := (.int (0 : Int32))) dc_jdk_42_method_149_code_20 (hw _ (List.mem_of_getElem? (i := 32) rfl)) Via.refl c174 rfl ?_
  have c175 := (q2_F.other W171 (Or.inr (slot_ne (Or.inr (hw _ (List.mem_of_getElem? (i := 33) rfl))) (Or.inr (hw _ (List.mem_of_getElem? (i := 35) rfl))) (by decide) (t := .byte) (t' := (.array .byte)) (by decide) (by decide))))
  have c176 := (q0_E.wr W171)
  refine Wlk.putF (pc' := 26) (ty := .byte) dc_jdk_42_method_149_code_23 (hw _ (List.mem_of_getElem? (i := 32) rfl)) Via.refl c175 c176 (Or.inr ⟨(hw _ (List.mem_of_getElem? (i := 33) rfl)), rfl, rfl⟩) (hw _ (List.mem_of_getElem? (i := 8) rfl)) (by decide) rfl rfl q3_G rfl (fun h178 W177 => ?_)
  have F179 := c175.same W177
  refine Wlk.return_ dc_jdk_42_method_149_code_26 rfl (by decide) (by decide) ?_
  have c180 := ((q5_E.wr W171).wr W177)
  have c181 := ((q6_F.other W171 (Or.inl q9_NE)).other W177 (Or.inl q9_NE))
  have c182 := (c174.other W177 (Or.inl q9_NE))
  have c183 := ((q8_A.other W171 q10_NE).other W177 q10_NE)
  have c184 := (c176.wr W177)
  have c185 := (F173.other W177 (Or.inr (slot_ne (Or.inr (hw _ (List.mem_of_getElem? (i := 35) rfl))) (Or.inr (hw _ (List.mem_of_getElem? (i := 33) rfl))) (by decide) (t := (.array .byte)) (t' := .byte) (by decide) (by decide))))
  exact ⟨rfl, (((Keep.refl h0 [s]).wr W171 (Or.inl (List.mem_of_getElem? (i := 0) rfl))).wr W177 (Or.inl (List.mem_of_getElem? (i := 0) rfl))), c180, c181, c182, c183, c184, c185, F179, rfl⟩

set_option maxRecDepth 65536 in
set_option maxHeartbeats 40000000 in
theorem st_emp1w {l : Launch} {Z : State} {a0 : Array Value} (hw : ∀ d ∈ tables_1, d.before a0 Z = true) (s : Addr) (a : Addr) (u2 : Value) (ka : ClassId) (vs : List Value) (d : Value) (c : Addr) (cb : Addr) (kb : ClassId) (Ts : List String) (Lt : List (String × Nat × Addr)) (h0 : Heap) (q0_E : Exa Z h0 s "java/lang/String") (q1_F : Fld Z h0 s "java/lang/String" "value" "[B" .null) (q2_F : Fld Z h0 s "java/lang/String" "coder" "B" u2) (q3_G : Z.heap.size ≤ s) (q4_A : Arv Z h0 a ka .char (0 : Int32) vs d) (q5_E : Exa Z h0 c "java/lang/String") (q6_F : Fld Z h0 c "java/lang/String" "value" "[B" (.ref cb)) (q7_F : Fld Z h0 c "java/lang/String" "coder" "B" (.int (0 : Int32))) (q8_A : Arv Z h0 cb kb .byte (0 : Int32) [] (.int 0)) (q9_NE : c ≠ s) (q10_NE : cb ≠ s) (hin : ("java/lang/String", 7, c) ∈ Lt) :
    Met l Z (⟨"java/lang/String", "<init>", "([C)V"⟩ : MethodName) jdk_42_method_3_code 2 none true [] ({ frames := 2, cells := 0, slots := 0, locals := 29 } : Room) #[(.ref s), (.ref a)] h0 (true, Ts, Lt) (fun v h J' => v = none ∧ Keep h0 h [s] ∧ Exa Z h c "java/lang/String" ∧ Fld Z h c "java/lang/String" "value" "[B" (.ref cb) ∧ Fld Z h c "java/lang/String" "coder" "B" (.int (0 : Int32)) ∧ Arv Z h cb kb .byte (0 : Int32) [] (.int 0) ∧ Exa Z h s "java/lang/String" ∧ Fld Z h s "java/lang/String" "value" "[B" (.ref cb) ∧ Fld Z h s "java/lang/String" "coder" "B" (.int (0 : Int32)) ∧ J' = (true, Ts, Lt)) := by
  refine Met.of_goes (Ls := #[.val (.ref s), .val (.ref a)]) (by first | exact plainFor_of_name (by first | (simp [plainName, overriddenIn]; done) | decide +kernel) | decide +kernel) (fun m => by first | (simp [entryFrame, mkF, argsToLocals, Value.category]; done) | rfl) rfl (fun G hGl => ?_)
  subst hGl
  refine Wlk.aloadN (pc' := 1) (v := (.ref s)) dc_jdk_42_method_3_code_0 rfl rfl rfl ?_
  refine Wlk.aloadN (pc' := 2) (v := (.ref a)) dc_jdk_42_method_3_code_1 rfl rfl rfl ?_
  refine Wlk.iconst (pc' := 3) (v := (0 : Int32)) dc_jdk_42_method_3_code_2 rfl rfl ?_
  refine Wlk.aloadN (pc' := 4) (v := (.ref a)) dc_jdk_42_method_3_code_3 rfl rfl rfl ?_
  refine Wlk.arraylength (pc' := 5) dc_jdk_42_method_3_code_4 q4_A rfl ?_
  refine Wlk.aconstNull (pc' := 6) dc_jdk_42_method_3_code_5 rfl ?_
  refine Wlk.callCw (pc' := 9) (a := s) (z := (⟨"java/lang/String", "<init>", "([CIILjava/lang/Void;)V"⟩ : MethodName)) (argsL := [(.ref a), (.int (0 : Int32)), (.int (0 : Int32)), .null]) (st := []) (W := 0) dc_jdk_42_method_3_code_6 (hw _ (List.mem_of_getElem? (i := 13) rfl)) (hw _ (List.mem_of_getElem? (i := 14) rfl)) (hw _ (List.mem_of_getElem? (i := 9) rfl)) (hw _ (List.mem_of_getElem? (i := 16) rfl)) (by decide) rfl pd_7 rfl (st_emp4w hw s a u2 ka vs d c cb kb Ts Lt h0 q0_E q1_F q2_F q3_G q4_A q5_E q6_F q7_F q8_A q9_NE q10_NE (by first | exact hin | simp)) (by decide) rfl (by decide) (by decide) (by decide) rfl rfl (fun v186 h187 J188 q189 => ?_)
  obtain ⟨rfl, K190, n191, n192, n193, n194, n195, n196, n197, rfl⟩ := q189
  show Wlk _ _ _ _ _ _ _ _ _ h187 0 0 9 #[.val (.ref s), .val (.ref a)] []
  refine Wlk.return_ dc_jdk_42_method_3_code_9 rfl (by decide) (by decide) ?_
  exact ⟨rfl, ((Keep.refl h0 [s]).trans K190 (allS (Or.inl (List.mem_of_getElem? (i := 0) rfl)) all0)), n191, n192, n193, n194, n195, n196, n197, rfl⟩

set_option maxRecDepth 65536 in
set_option maxHeartbeats 40000000 in
theorem rm_ch {l : Launch} {Z : State} {a0 : Array Value} (hw : ∀ d ∈ tables_1, d.before a0 Z = true) (p : Int64) (k : Int32) (t : Int32) (h0 : Heap)  :
    Met l Z (⟨"com/example/wenyi/wenyi/request/YonyouSignatureIsSignedPinLaw", "ch", "(JIC)C"⟩ : MethodName) method_2_code 4 (some .char) false [] ({ frames := 0, cells := 0, slots := 0, locals := 0 } : Room) #[(.long p), (.int k), (.int t)] h0 (false, [], []) (fun v h J' => ∃ (c : Int32), v = some (.int c) ∧ h0 = h ∧ ¬ c < 0 ∧ ¬ (65535 : Int32) < c) := by
  refine Met.of_goes (Ls := #[.val (.long p), .second, .val (.int k), .val (.int t)]) (by first | exact plainFor_of_name (by first | (simp [plainName, overriddenIn]; done) | decide +kernel) | decide +kernel) (fun m => by first | (simp [entryFrame, mkF, argsToLocals, Value.category]; done) | rfl) rfl (fun G hGl => ?_)
  subst hGl
  refine Wlk.iloadN (pc' := 1) (v := t) dc_method_2_code_0 rfl rfl ?_
  refine Wlk.lloadN (pc' := 2) (v := p) dc_method_2_code_1 rfl rfl ?_
  refine Wlk.bipush (pc' := 4) (v := (16 : Int32)) dc_method_2_code_2 (by decide) rfl ?_
  refine Wlk.iloadN (pc' := 5) (v := k) dc_method_2_code_4 rfl rfl ?_
  refine Wlk.imul (pc' := 6) dc_method_2_code_5 rfl ?_
  refine Wlk.lushr (pc' := 7) dc_method_2_code_6 rfl ?_
  refine Wlk.ldc2J (pc' := 10) (v := (65535 : Int64)) dc_method_2_code_7 (hw _ (List.mem_of_getElem? (i := 5) rfl)) rfl ?_
  refine Wlk.land (pc' := 11) dc_method_2_code_10 rfl ?_
  refine Wlk.l2i (pc' := 12) dc_method_2_code_11 rfl ?_
  refine Wlk.iadd (pc' := 13) dc_method_2_code_12 rfl ?_
  refine Wlk.i2c (pc' := 14) dc_method_2_code_13 rfl ?_
  refine Wlk.ireturnN (t := .char) dc_method_2_code_14 rfl (by simp) (by decide) (by decide) ?_
  exact ⟨(nar .char (((t + ((((XT.ushrL p ((16 : Int32) * k)) &&& (65535 : Int64))).toInt32))).toUInt32.toUInt16.toUInt32.toInt32)), rfl, rfl, (rng_char (fits_nar_char _)).1, (rng_char (fits_nar_char _)).2⟩

set_option maxRecDepth 65536 in
set_option maxHeartbeats 40000000 in
theorem rm_sgn {l : Launch} {Z : State} {a0 : Array Value} (hw : ∀ d ∈ tables_1, d.before a0 Z = true) (s : Addr) (t : Addr) (cs : List Int32) (zc : Int32) (Ts : List String) (Lt : List (String × Nat × Addr)) (h0 : Heap) (q0_SA : StrA Z h0 s t cs) (q1_Sta : Sta Z Z.heap "java/lang/String" "COMPACT_STRINGS" "Z" (.int zc)) (P3 : ¬ zc = 0) (wS : ∀ a ∈ Bundle.stringAtoms, a.before a0 Z = true) (hcw : Jvm.Lit.compactW.before a0 Z = true) (hh_25 : Jvm.Lit.constHeld Z "com/example/wenyi/wenyi/request/YonyouSignature" 25) (hnT : "signature" ∉ Ts) (hcs : ∀ x ∈ cs, ¬ x < 0) (lc : cs.length ≤ 4000) :
    Met l Z (⟨"com/example/wenyi/wenyi/request/YonyouSignature", "isSigned", "(Ljava/lang/String;)Z"⟩ : MethodName) prog_9_method_4_code 1 (some .boolean) true [] ({ frames := 2, cells := 2, slots := 40, locals := 28 } : Room) #[(.ref s)] h0 (true, Ts, Lt) (fun v h J' => ∃ (c : Addr), v = some (.int (if cs = sigL then (0 : Int32) else 1)) ∧ Keep h0 h [] ∧ J' = (true, "signature" :: Ts, ("com/example/wenyi/wenyi/request/YonyouSignature", 25, c) :: Lt)) := by
  refine Met.of_goes (Ls := #[.val (.ref s)]) (by first | exact plainFor_of_name (by first | (simp [plainName, overriddenIn]; done) | decide +kernel) | decide +kernel) (fun m => by first | (simp [entryFrame, mkF, argsToLocals, Value.category]; done) | rfl) rfl (fun G hGl => ?_)
  subst hGl
  have O2 := q1_Sta
  refine Wlk.ldcNew (pc' := 2) (text := "signature") (nn := 36) (vs := [(.int (115 : Int32)), (.int (105 : Int32)), (.int (103 : Int32)), (.int (110 : Int32)), (.int (97 : Int32)), (.int (116 : Int32)), (.int (117 : Int32)), (.int (114 : Int32)), (.int (101 : Int32))]) (z := (9 : Int32)) dc_prog_9_method_4_code_0 (hw _ (List.mem_of_getElem? (i := 40) rfl)) wS hnT hh_25 hcw ⟨by decide, by decide⟩ (by decide) (by decide) (by decide) (by decide) (by decide) (by decide) rfl (fun ca198 cb199 kb200 h201 E202 A203 A204 A205 A206 => ?_)
  have SC : StrL Z h201 ca198 cb199 sigL := ⟨A203, A205, A204, kb200, A206⟩
  refine Wlk.aloadN (pc' := 3) (v := (.ref s)) dc_prog_9_method_4_code_2 rfl rfl rfl ?_
  have c207 := (q0_SA.ext E202)
  refine Wlk.callV (pc' := 6) (a := ca198) (x := (⟨"java/lang/String", "equals", "(Ljava/lang/Object;)Z"⟩ : MethodName)) (C := "java/lang/String") (z := (⟨"java/lang/String", "equals", "(Ljava/lang/Object;)Z"⟩ : MethodName)) (argsL := [(.ref s)]) (st := []) (W := 0) dc_prog_9_method_4_code_3 (hw _ (List.mem_of_getElem? (i := 43) rfl)) (hw _ (List.mem_of_getElem? (i := 44) rfl)) (fun s q => notFace_of_selects (args := #[]) (mvT q (hw _ (List.mem_of_getElem? (i := 46) rfl)))) (hw _ (List.mem_of_getElem? (i := 46) rfl)) (hw _ (List.mem_of_getElem? (i := 45) rfl)) SC.1 (hw _ (List.mem_of_getElem? (i := 9) rfl)) (hw _ (List.mem_of_getElem? (i := 47) rfl)) (by decide) pd_9 rfl (st_eqA hw ca198 s cb199 t sigL cs h201 SC c207 zc O2 P3 own_sig hcs (by first | assumption | exact Nat.le_of_ble_eq_true rfl) (by first | assumption | exact Nat.le_of_ble_eq_true rfl)) (by decide) rfl (by decide) (by decide) (by decide) rfl rfl (fun v208 h209 J210 q211 => ?_)
  obtain ⟨rfl, rfl⟩ := q211
  show Wlk _ _ _ _ _ _ _ _ _ h201 2 40 6 #[.val (.ref s)] [(.int (if cs = sigL then (1 : Int32) else 0))]
  refine Wlk.if_ (pcT := 13) (pcF := 9) dc_prog_9_method_4_code_6 (by decide) (by decide) rfl (fun (hc212 : ¬ ((if cs = sigL then (1 : Int32) else 0) = (0 : Int32))) => ?_) (fun (hc212 : (if cs = sigL then (1 : Int32) else 0) = (0 : Int32)) => ?_)
  · skip
    refine Wlk.iconst (pc' := 14) (v := (0 : Int32)) dc_prog_9_method_4_code_13 rfl rfl ?_
    refine Wlk.ireturnN (t := .boolean) dc_prog_9_method_4_code_14 rfl (by simp) (by decide) (by decide) ?_
    exact ⟨ca198, (by by_cases hq : cs = sigL <;> simp_all [nar]), ((Keep.refl h0 []).ext E202), rfl⟩
  · skip
    refine Wlk.iconst (pc' := 10) (v := (1 : Int32)) dc_prog_9_method_4_code_9 rfl rfl ?_
    refine Wlk.goto (pc' := 14) dc_prog_9_method_4_code_10 (by decide) (by decide) ?_
    refine Wlk.ireturnN (t := .boolean) dc_prog_9_method_4_code_14 rfl (by simp) (by decide) (by decide) ?_
    exact ⟨ca198, (by by_cases hq : cs = sigL <;> simp_all [nar]), ((Keep.refl h0 []).ext E202), rfl⟩

set_option maxRecDepth 65536 in
set_option maxHeartbeats 40000000 in
theorem rm_law {l : Launch} {Z : State} {a0 : Array Value} (hw : ∀ d ∈ tables_1, d.before a0 Z = true) (ws : List Jvm.Cond) (p1 p2 p3 : Int64) (p4 : Int32) (h0 : Heap) (zc : Int32) (O2 : Sta Z Z.heap "java/lang/String" "COMPACT_STRINGS" "Z" (.int zc)) (P3 : ¬ zc = 0) (q0_Sta : Sta Z Z.heap "java/lang/StringUTF16" "$assertionsDisabled" "Z" (.int (1 : Int32))) (q1_Sta : Sta Z Z.heap "java/lang/StringUTF16" "HI_BYTE_SHIFT" "I" (.int (0 : Int32))) (q2_Sta : Sta Z Z.heap "java/lang/StringUTF16" "LO_BYTE_SHIFT" "I" (.int (8 : Int32))) (wS : ∀ a ∈ Bundle.stringAtoms, a.before a0 Z = true) (hcw : Jvm.Lit.compactW.before a0 Z = true) (hh_7 : Jvm.Lit.constHeld Z "java/lang/String" 7) (hh_25 : Jvm.Lit.constHeld Z "com/example/wenyi/wenyi/request/YonyouSignature" 25) :
    Met l Z x code maxLocals ret true ws room_1 #[(.long p1), (.long p2), (.long p3), (.int p4)] h0 (true, [], []) (fun v h J => v = some (.int 1)) := by
  refine Met.of_goes (Ls := #[.val (.long p1), .second, .val (.long p2), .second, .val (.long p3), .second, .val (.int p4), .unset, .unset, .unset, .unset, .unset, .unset, .unset, .unset, .unset, .unset, .unset, .unset, .unset, .unset]) (by first | exact plainFor_of_name (by first | (simp [plainName, overriddenIn]; done) | decide +kernel) | decide +kernel) (fun m => by first | (simp [entryFrame, mkF, argsToLocals, Value.category, maxLocals]; done) | rfl) rfl (fun G hGl => ?_)
  subst hGl
  refine Wlk.iload (pc' := 2) (v := p4) at_0 rfl rfl ?_
  refine Wlk.ldcI (pc' := 4) (v := (2147483647 : Int32)) at_2 (hw _ (List.mem_of_getElem? (i := 0) rfl)) rfl ?_
  refine Wlk.iand (pc' := 5) at_4 rfl ?_
  refine Wlk.bipush (pc' := 7) (v := (11 : Int32)) at_5 (by decide) rfl ?_
  refine Wlk.irem (pc' := 8) at_7 (by decide) rfl ?_
  obtain ⟨n, e_n⟩ : ∃ z, z = ((p4 &&& (2147483647 : Int32)) % (11 : Int32)) := ⟨_, rfl⟩
  rw [← e_n]
  have hn := own_lt11 (e_n ▸ own_mod p4 11 11 (by decide) (by decide))
  clear e_n
  refine Wlk.istore (pc' := 10) (Ls' := #[.val (.long p1), .second, .val (.long p2), .second, .val (.long p3), .second, .val (.int p4), .val (.int n), .unset, .unset, .unset, .unset, .unset, .unset, .unset, .unset, .unset, .unset, .unset, .unset, .unset]) at_8 rfl rfl rfl ?_
  refine Wlk.lloadN (pc' := 11) (v := p1) at_10 rfl rfl ?_
  refine Wlk.iconst (pc' := 12) (v := (0 : Int32)) at_11 rfl rfl ?_
  refine Wlk.bipush (pc' := 14) (v := (115 : Int32)) at_12 (by decide) rfl ?_
  refine Wlk.callS (pc' := 17) (z := (⟨"com/example/wenyi/wenyi/request/YonyouSignatureIsSignedPinLaw", "ch", "(JIC)C"⟩ : MethodName)) (argsL := [(.long p1), (.int (0 : Int32)), (.int (115 : Int32))]) (st := []) (W := 0) at_14 (hw _ (List.mem_of_getElem? (i := 1) rfl)) (hw _ (List.mem_of_getElem? (i := 2) rfl)) (hw _ (List.mem_of_getElem? (i := 3) rfl)) (hw _ (List.mem_of_getElem? (i := 4) rfl)) (by decide) pd_10 rfl (rm_ch hw p1 (0 : Int32) (115 : Int32) h0 ) (by decide) rfl (by decide) (by decide) (by decide) rfl rfl (fun v213 h214 J215 q216 => ?_)
  obtain ⟨c217, rfl, rfl, n218, n219⟩ := q216
  show Wlk _ _ _ _ _ _ _ _ _ h0 0 0 17 #[.val (.long p1), .second, .val (.long p2), .second, .val (.long p3), .second, .val (.int p4), .val (.int n), .unset, .unset, .unset, .unset, .unset, .unset, .unset, .unset, .unset, .unset, .unset, .unset, .unset] [(.int c217)]
  refine Wlk.istore (pc' := 19) (Ls' := #[.val (.long p1), .second, .val (.long p2), .second, .val (.long p3), .second, .val (.int p4), .val (.int n), .val (.int c217), .unset, .unset, .unset, .unset, .unset, .unset, .unset, .unset, .unset, .unset, .unset, .unset]) at_17 rfl rfl rfl ?_
  refine Wlk.lloadN (pc' := 20) (v := p1) at_19 rfl rfl ?_
  refine Wlk.iconst (pc' := 21) (v := (1 : Int32)) at_20 rfl rfl ?_
  refine Wlk.bipush (pc' := 23) (v := (105 : Int32)) at_21 (by decide) rfl ?_
  refine Wlk.callS (pc' := 26) (z := (⟨"com/example/wenyi/wenyi/request/YonyouSignatureIsSignedPinLaw", "ch", "(JIC)C"⟩ : MethodName)) (argsL := [(.long p1), (.int (1 : Int32)), (.int (105 : Int32))]) (st := []) (W := 0) at_23 (hw _ (List.mem_of_getElem? (i := 1) rfl)) (hw _ (List.mem_of_getElem? (i := 2) rfl)) (hw _ (List.mem_of_getElem? (i := 3) rfl)) (hw _ (List.mem_of_getElem? (i := 4) rfl)) (by decide) pd_10 rfl (rm_ch hw p1 (1 : Int32) (105 : Int32) h0 ) (by decide) rfl (by decide) (by decide) (by decide) rfl rfl (fun v220 h221 J222 q223 => ?_)
  obtain ⟨c224, rfl, rfl, n225, n226⟩ := q223
  show Wlk _ _ _ _ _ _ _ _ _ h0 0 0 26 #[.val (.long p1), .second, .val (.long p2), .second, .val (.long p3), .second, .val (.int p4), .val (.int n), .val (.int c217), .unset, .unset, .unset, .unset, .unset, .unset, .unset, .unset, .unset, .unset, .unset, .unset] [(.int c224)]
  refine Wlk.istore (pc' := 28) (Ls' := #[.val (.long p1), .second, .val (.long p2), .second, .val (.long p3), .second, .val (.int p4), .val (.int n), .val (.int c217), .val (.int c224), .unset, .unset, .unset, .unset, .unset, .unset, .unset, .unset, .unset, .unset, .unset]) at_26 rfl rfl rfl ?_
  refine Wlk.lloadN (pc' := 29) (v := p1) at_28 rfl rfl ?_
  refine Wlk.iconst (pc' := 30) (v := (2 : Int32)) at_29 rfl rfl ?_
  refine Wlk.bipush (pc' := 32) (v := (103 : Int32)) at_30 (by decide) rfl ?_
  refine Wlk.callS (pc' := 35) (z := (⟨"com/example/wenyi/wenyi/request/YonyouSignatureIsSignedPinLaw", "ch", "(JIC)C"⟩ : MethodName)) (argsL := [(.long p1), (.int (2 : Int32)), (.int (103 : Int32))]) (st := []) (W := 0) at_32 (hw _ (List.mem_of_getElem? (i := 1) rfl)) (hw _ (List.mem_of_getElem? (i := 2) rfl)) (hw _ (List.mem_of_getElem? (i := 3) rfl)) (hw _ (List.mem_of_getElem? (i := 4) rfl)) (by decide) pd_10 rfl (rm_ch hw p1 (2 : Int32) (103 : Int32) h0 ) (by decide) rfl (by decide) (by decide) (by decide) rfl rfl (fun v227 h228 J229 q230 => ?_)
  obtain ⟨c231, rfl, rfl, n232, n233⟩ := q230
  show Wlk _ _ _ _ _ _ _ _ _ h0 0 0 35 #[.val (.long p1), .second, .val (.long p2), .second, .val (.long p3), .second, .val (.int p4), .val (.int n), .val (.int c217), .val (.int c224), .unset, .unset, .unset, .unset, .unset, .unset, .unset, .unset, .unset, .unset, .unset] [(.int c231)]
  refine Wlk.istore (pc' := 37) (Ls' := #[.val (.long p1), .second, .val (.long p2), .second, .val (.long p3), .second, .val (.int p4), .val (.int n), .val (.int c217), .val (.int c224), .val (.int c231), .unset, .unset, .unset, .unset, .unset, .unset, .unset, .unset, .unset, .unset]) at_35 rfl rfl rfl ?_
  refine Wlk.lloadN (pc' := 38) (v := p1) at_37 rfl rfl ?_
  refine Wlk.iconst (pc' := 39) (v := (3 : Int32)) at_38 rfl rfl ?_
  refine Wlk.bipush (pc' := 41) (v := (110 : Int32)) at_39 (by decide) rfl ?_
  refine Wlk.callS (pc' := 44) (z := (⟨"com/example/wenyi/wenyi/request/YonyouSignatureIsSignedPinLaw", "ch", "(JIC)C"⟩ : MethodName)) (argsL := [(.long p1), (.int (3 : Int32)), (.int (110 : Int32))]) (st := []) (W := 0) at_41 (hw _ (List.mem_of_getElem? (i := 1) rfl)) (hw _ (List.mem_of_getElem? (i := 2) rfl)) (hw _ (List.mem_of_getElem? (i := 3) rfl)) (hw _ (List.mem_of_getElem? (i := 4) rfl)) (by decide) pd_10 rfl (rm_ch hw p1 (3 : Int32) (110 : Int32) h0 ) (by decide) rfl (by decide) (by decide) (by decide) rfl rfl (fun v234 h235 J236 q237 => ?_)
  obtain ⟨c238, rfl, rfl, n239, n240⟩ := q237
  show Wlk _ _ _ _ _ _ _ _ _ h0 0 0 44 #[.val (.long p1), .second, .val (.long p2), .second, .val (.long p3), .second, .val (.int p4), .val (.int n), .val (.int c217), .val (.int c224), .val (.int c231), .unset, .unset, .unset, .unset, .unset, .unset, .unset, .unset, .unset, .unset] [(.int c238)]
  refine Wlk.istore (pc' := 46) (Ls' := #[.val (.long p1), .second, .val (.long p2), .second, .val (.long p3), .second, .val (.int p4), .val (.int n), .val (.int c217), .val (.int c224), .val (.int c231), .val (.int c238), .unset, .unset, .unset, .unset, .unset, .unset, .unset, .unset, .unset]) at_44 rfl rfl rfl ?_
  refine Wlk.lloadN (pc' := 47) (v := p2) at_46 rfl rfl ?_
  refine Wlk.iconst (pc' := 48) (v := (0 : Int32)) at_47 rfl rfl ?_
  refine Wlk.bipush (pc' := 50) (v := (97 : Int32)) at_48 (by decide) rfl ?_
  refine Wlk.callS (pc' := 53) (z := (⟨"com/example/wenyi/wenyi/request/YonyouSignatureIsSignedPinLaw", "ch", "(JIC)C"⟩ : MethodName)) (argsL := [(.long p2), (.int (0 : Int32)), (.int (97 : Int32))]) (st := []) (W := 0) at_50 (hw _ (List.mem_of_getElem? (i := 1) rfl)) (hw _ (List.mem_of_getElem? (i := 2) rfl)) (hw _ (List.mem_of_getElem? (i := 3) rfl)) (hw _ (List.mem_of_getElem? (i := 4) rfl)) (by decide) pd_10 rfl (rm_ch hw p2 (0 : Int32) (97 : Int32) h0 ) (by decide) rfl (by decide) (by decide) (by decide) rfl rfl (fun v241 h242 J243 q244 => ?_)
  obtain ⟨c245, rfl, rfl, n246, n247⟩ := q244
  show Wlk _ _ _ _ _ _ _ _ _ h0 0 0 53 #[.val (.long p1), .second, .val (.long p2), .second, .val (.long p3), .second, .val (.int p4), .val (.int n), .val (.int c217), .val (.int c224), .val (.int c231), .val (.int c238), .unset, .unset, .unset, .unset, .unset, .unset, .unset, .unset, .unset] [(.int c245)]
  refine Wlk.istore (pc' := 55) (Ls' := #[.val (.long p1), .second, .val (.long p2), .second, .val (.long p3), .second, .val (.int p4), .val (.int n), .val (.int c217), .val (.int c224), .val (.int c231), .val (.int c238), .val (.int c245), .unset, .unset, .unset, .unset, .unset, .unset, .unset, .unset]) at_53 rfl rfl rfl ?_
  refine Wlk.lloadN (pc' := 56) (v := p2) at_55 rfl rfl ?_
  refine Wlk.iconst (pc' := 57) (v := (1 : Int32)) at_56 rfl rfl ?_
  refine Wlk.bipush (pc' := 59) (v := (116 : Int32)) at_57 (by decide) rfl ?_
  refine Wlk.callS (pc' := 62) (z := (⟨"com/example/wenyi/wenyi/request/YonyouSignatureIsSignedPinLaw", "ch", "(JIC)C"⟩ : MethodName)) (argsL := [(.long p2), (.int (1 : Int32)), (.int (116 : Int32))]) (st := []) (W := 0) at_59 (hw _ (List.mem_of_getElem? (i := 1) rfl)) (hw _ (List.mem_of_getElem? (i := 2) rfl)) (hw _ (List.mem_of_getElem? (i := 3) rfl)) (hw _ (List.mem_of_getElem? (i := 4) rfl)) (by decide) pd_10 rfl (rm_ch hw p2 (1 : Int32) (116 : Int32) h0 ) (by decide) rfl (by decide) (by decide) (by decide) rfl rfl (fun v248 h249 J250 q251 => ?_)
  obtain ⟨c252, rfl, rfl, n253, n254⟩ := q251
  show Wlk _ _ _ _ _ _ _ _ _ h0 0 0 62 #[.val (.long p1), .second, .val (.long p2), .second, .val (.long p3), .second, .val (.int p4), .val (.int n), .val (.int c217), .val (.int c224), .val (.int c231), .val (.int c238), .val (.int c245), .unset, .unset, .unset, .unset, .unset, .unset, .unset, .unset] [(.int c252)]
  refine Wlk.istore (pc' := 64) (Ls' := #[.val (.long p1), .second, .val (.long p2), .second, .val (.long p3), .second, .val (.int p4), .val (.int n), .val (.int c217), .val (.int c224), .val (.int c231), .val (.int c238), .val (.int c245), .val (.int c252), .unset, .unset, .unset, .unset, .unset, .unset, .unset]) at_62 rfl rfl rfl ?_
  refine Wlk.lloadN (pc' := 65) (v := p2) at_64 rfl rfl ?_
  refine Wlk.iconst (pc' := 66) (v := (2 : Int32)) at_65 rfl rfl ?_
  refine Wlk.bipush (pc' := 68) (v := (117 : Int32)) at_66 (by decide) rfl ?_
  refine Wlk.callS (pc' := 71) (z := (⟨"com/example/wenyi/wenyi/request/YonyouSignatureIsSignedPinLaw", "ch", "(JIC)C"⟩ : MethodName)) (argsL := [(.long p2), (.int (2 : Int32)), (.int (117 : Int32))]) (st := []) (W := 0) at_68 (hw _ (List.mem_of_getElem? (i := 1) rfl)) (hw _ (List.mem_of_getElem? (i := 2) rfl)) (hw _ (List.mem_of_getElem? (i := 3) rfl)) (hw _ (List.mem_of_getElem? (i := 4) rfl)) (by decide) pd_10 rfl (rm_ch hw p2 (2 : Int32) (117 : Int32) h0 ) (by decide) rfl (by decide) (by decide) (by decide) rfl rfl (fun v255 h256 J257 q258 => ?_)
  obtain ⟨c259, rfl, rfl, n260, n261⟩ := q258
  show Wlk _ _ _ _ _ _ _ _ _ h0 0 0 71 #[.val (.long p1), .second, .val (.long p2), .second, .val (.long p3), .second, .val (.int p4), .val (.int n), .val (.int c217), .val (.int c224), .val (.int c231), .val (.int c238), .val (.int c245), .val (.int c252), .unset, .unset, .unset, .unset, .unset, .unset, .unset] [(.int c259)]
  refine Wlk.istore (pc' := 73) (Ls' := #[.val (.long p1), .second, .val (.long p2), .second, .val (.long p3), .second, .val (.int p4), .val (.int n), .val (.int c217), .val (.int c224), .val (.int c231), .val (.int c238), .val (.int c245), .val (.int c252), .val (.int c259), .unset, .unset, .unset, .unset, .unset, .unset]) at_71 rfl rfl rfl ?_
  refine Wlk.lloadN (pc' := 74) (v := p2) at_73 rfl rfl ?_
  refine Wlk.iconst (pc' := 75) (v := (3 : Int32)) at_74 rfl rfl ?_
  refine Wlk.bipush (pc' := 77) (v := (114 : Int32)) at_75 (by decide) rfl ?_
  refine Wlk.callS (pc' := 80) (z := (⟨"com/example/wenyi/wenyi/request/YonyouSignatureIsSignedPinLaw", "ch", "(JIC)C"⟩ : MethodName)) (argsL := [(.long p2), (.int (3 : Int32)), (.int (114 : Int32))]) (st := []) (W := 0) at_77 (hw _ (List.mem_of_getElem? (i := 1) rfl)) (hw _ (List.mem_of_getElem? (i := 2) rfl)) (hw _ (List.mem_of_getElem? (i := 3) rfl)) (hw _ (List.mem_of_getElem? (i := 4) rfl)) (by decide) pd_10 rfl (rm_ch hw p2 (3 : Int32) (114 : Int32) h0 ) (by decide) rfl (by decide) (by decide) (by decide) rfl rfl (fun v262 h263 J264 q265 => ?_)
  obtain ⟨c266, rfl, rfl, n267, n268⟩ := q265
  show Wlk _ _ _ _ _ _ _ _ _ h0 0 0 80 #[.val (.long p1), .second, .val (.long p2), .second, .val (.long p3), .second, .val (.int p4), .val (.int n), .val (.int c217), .val (.int c224), .val (.int c231), .val (.int c238), .val (.int c245), .val (.int c252), .val (.int c259), .unset, .unset, .unset, .unset, .unset, .unset] [(.int c266)]
  refine Wlk.istore (pc' := 82) (Ls' := #[.val (.long p1), .second, .val (.long p2), .second, .val (.long p3), .second, .val (.int p4), .val (.int n), .val (.int c217), .val (.int c224), .val (.int c231), .val (.int c238), .val (.int c245), .val (.int c252), .val (.int c259), .val (.int c266), .unset, .unset, .unset, .unset, .unset]) at_80 rfl rfl rfl ?_
  refine Wlk.lload (pc' := 84) (v := p3) at_82 rfl rfl ?_
  refine Wlk.iconst (pc' := 85) (v := (0 : Int32)) at_84 rfl rfl ?_
  refine Wlk.bipush (pc' := 87) (v := (101 : Int32)) at_85 (by decide) rfl ?_
  refine Wlk.callS (pc' := 90) (z := (⟨"com/example/wenyi/wenyi/request/YonyouSignatureIsSignedPinLaw", "ch", "(JIC)C"⟩ : MethodName)) (argsL := [(.long p3), (.int (0 : Int32)), (.int (101 : Int32))]) (st := []) (W := 0) at_87 (hw _ (List.mem_of_getElem? (i := 1) rfl)) (hw _ (List.mem_of_getElem? (i := 2) rfl)) (hw _ (List.mem_of_getElem? (i := 3) rfl)) (hw _ (List.mem_of_getElem? (i := 4) rfl)) (by decide) pd_10 rfl (rm_ch hw p3 (0 : Int32) (101 : Int32) h0 ) (by decide) rfl (by decide) (by decide) (by decide) rfl rfl (fun v269 h270 J271 q272 => ?_)
  obtain ⟨c273, rfl, rfl, n274, n275⟩ := q272
  show Wlk _ _ _ _ _ _ _ _ _ h0 0 0 90 #[.val (.long p1), .second, .val (.long p2), .second, .val (.long p3), .second, .val (.int p4), .val (.int n), .val (.int c217), .val (.int c224), .val (.int c231), .val (.int c238), .val (.int c245), .val (.int c252), .val (.int c259), .val (.int c266), .unset, .unset, .unset, .unset, .unset] [(.int c273)]
  refine Wlk.istore (pc' := 92) (Ls' := #[.val (.long p1), .second, .val (.long p2), .second, .val (.long p3), .second, .val (.int p4), .val (.int n), .val (.int c217), .val (.int c224), .val (.int c231), .val (.int c238), .val (.int c245), .val (.int c252), .val (.int c259), .val (.int c266), .val (.int c273), .unset, .unset, .unset, .unset]) at_90 rfl rfl rfl ?_
  refine Wlk.lload (pc' := 94) (v := p3) at_92 rfl rfl ?_
  refine Wlk.iconst (pc' := 95) (v := (1 : Int32)) at_94 rfl rfl ?_
  refine Wlk.bipush (pc' := 97) (v := (115 : Int32)) at_95 (by decide) rfl ?_
  refine Wlk.callS (pc' := 100) (z := (⟨"com/example/wenyi/wenyi/request/YonyouSignatureIsSignedPinLaw", "ch", "(JIC)C"⟩ : MethodName)) (argsL := [(.long p3), (.int (1 : Int32)), (.int (115 : Int32))]) (st := []) (W := 0) at_97 (hw _ (List.mem_of_getElem? (i := 1) rfl)) (hw _ (List.mem_of_getElem? (i := 2) rfl)) (hw _ (List.mem_of_getElem? (i := 3) rfl)) (hw _ (List.mem_of_getElem? (i := 4) rfl)) (by decide) pd_10 rfl (rm_ch hw p3 (1 : Int32) (115 : Int32) h0 ) (by decide) rfl (by decide) (by decide) (by decide) rfl rfl (fun v276 h277 J278 q279 => ?_)
  obtain ⟨c280, rfl, rfl, n281, n282⟩ := q279
  show Wlk _ _ _ _ _ _ _ _ _ h0 0 0 100 #[.val (.long p1), .second, .val (.long p2), .second, .val (.long p3), .second, .val (.int p4), .val (.int n), .val (.int c217), .val (.int c224), .val (.int c231), .val (.int c238), .val (.int c245), .val (.int c252), .val (.int c259), .val (.int c266), .val (.int c273), .unset, .unset, .unset, .unset] [(.int c280)]
  refine Wlk.istore (pc' := 102) (Ls' := #[.val (.long p1), .second, .val (.long p2), .second, .val (.long p3), .second, .val (.int p4), .val (.int n), .val (.int c217), .val (.int c224), .val (.int c231), .val (.int c238), .val (.int c245), .val (.int c252), .val (.int c259), .val (.int c266), .val (.int c273), .val (.int c280), .unset, .unset, .unset]) at_100 rfl rfl rfl ?_
  rcases hn with rfl | rfl | rfl | rfl | rfl | rfl | rfl | rfl | rfl | rfl | rfl
  · skip
    refine Wlk.iload (pc' := 104) (v := (0 : Int32)) at_102 rfl rfl ?_
    refine Wlk.newP (pc' := 106) (ty := .char) (cap := 0) at_104 rfl (hw _ (List.mem_of_getElem? (i := 6) rfl)) (by decide) (by decide) (by decide) (by decide) (by decide) rfl (fun b283 h284 kc285 le286 g287 E288 A289 => ?_)
    have A290 : Arv Z h284 b283 kc285 .char (0 : Int32) [] (.int 0) := A289.pad (pad_rep [] (.int 0) 0)
    refine Wlk.astore (pc' := 108) (Ls' := #[.val (.long p1), .second, .val (.long p2), .second, .val (.long p3), .second, .val (.int p4), .val (.int (0 : Int32)), .val (.int c217), .val (.int c224), .val (.int c231), .val (.int c238), .val (.int c245), .val (.int c252), .val (.int c259), .val (.int c266), .val (.int c273), .val (.int c280), .val (.ref b283), .unset, .unset]) at_106 rfl rfl rfl rfl ?_
    refine Wlk.iload (pc' := 110) (v := (0 : Int32)) at_108 rfl rfl ?_
    refine Wlk.ifT (pc' := 119) at_110 (by decide) (by decide) (show ¬ ((0 : Int32) < (0 : Int32)) from by decide) ?_
    refine Wlk.iload (pc' := 121) (v := (0 : Int32)) at_119 rfl rfl ?_
    refine Wlk.iconst (pc' := 122) (v := (1 : Int32)) at_121 rfl rfl ?_
    refine Wlk.icT (pc' := 131) at_122 (by decide) (by decide) (show ¬ ((1 : Int32) < (0 : Int32)) from by decide) ?_
    refine Wlk.iload (pc' := 133) (v := (0 : Int32)) at_131 rfl rfl ?_
    refine Wlk.iconst (pc' := 134) (v := (2 : Int32)) at_133 rfl rfl ?_
    refine Wlk.icT (pc' := 143) at_134 (by decide) (by decide) (show ¬ ((2 : Int32) < (0 : Int32)) from by decide) ?_
    refine Wlk.iload (pc' := 145) (v := (0 : Int32)) at_143 rfl rfl ?_
    refine Wlk.iconst (pc' := 146) (v := (3 : Int32)) at_145 rfl rfl ?_
    refine Wlk.icT (pc' := 155) at_146 (by decide) (by decide) (show ¬ ((3 : Int32) < (0 : Int32)) from by decide) ?_
    refine Wlk.iload (pc' := 157) (v := (0 : Int32)) at_155 rfl rfl ?_
    refine Wlk.iconst (pc' := 158) (v := (4 : Int32)) at_157 rfl rfl ?_
    refine Wlk.icT (pc' := 167) at_158 (by decide) (by decide) (show ¬ ((4 : Int32) < (0 : Int32)) from by decide) ?_
    refine Wlk.iload (pc' := 169) (v := (0 : Int32)) at_167 rfl rfl ?_
    refine Wlk.iconst (pc' := 170) (v := (5 : Int32)) at_169 rfl rfl ?_
    refine Wlk.icT (pc' := 179) at_170 (by decide) (by decide) (show ¬ ((5 : Int32) < (0 : Int32)) from by decide) ?_
    refine Wlk.iload (pc' := 181) (v := (0 : Int32)) at_179 rfl rfl ?_
    refine Wlk.bipush (pc' := 183) (v := (6 : Int32)) at_181 (by decide) rfl ?_
    refine Wlk.icT (pc' := 193) at_183 (by decide) (by decide) (show ¬ ((6 : Int32) < (0 : Int32)) from by decide) ?_
    refine Wlk.iload (pc' := 195) (v := (0 : Int32)) at_193 rfl rfl ?_
    refine Wlk.bipush (pc' := 197) (v := (7 : Int32)) at_195 (by decide) rfl ?_
    refine Wlk.icT (pc' := 207) at_197 (by decide) (by decide) (show ¬ ((7 : Int32) < (0 : Int32)) from by decide) ?_
    refine Wlk.iload (pc' := 209) (v := (0 : Int32)) at_207 rfl rfl ?_
    refine Wlk.bipush (pc' := 211) (v := (8 : Int32)) at_209 (by decide) rfl ?_
    refine Wlk.icT (pc' := 221) at_211 (by decide) (by decide) (show ¬ ((8 : Int32) < (0 : Int32)) from by decide) ?_
    refine Wlk.iload (pc' := 223) (v := (0 : Int32)) at_221 rfl rfl ?_
    refine Wlk.bipush (pc' := 225) (v := (9 : Int32)) at_223 (by decide) rfl ?_
    refine Wlk.icT (pc' := 235) at_225 (by decide) (by decide) (show ¬ ((9 : Int32) < (0 : Int32)) from by decide) ?_
    refine Wlk.iload (pc' := 237) (v := (0 : Int32)) at_235 rfl rfl ?_
    refine Wlk.bipush (pc' := 239) (v := (9 : Int32)) at_237 (by decide) rfl ?_
    refine Wlk.icT (pc' := 309) at_239 (by decide) (by decide) (show ¬ ((0 : Int32) = (9 : Int32)) from by decide) ?_
    refine Wlk.iconst (pc' := 310) (v := (0 : Int32)) at_309 rfl rfl ?_
    refine Wlk.istore (pc' := 312) (Ls' := #[.val (.long p1), .second, .val (.long p2), .second, .val (.long p3), .second, .val (.int p4), .val (.int (0 : Int32)), .val (.int c217), .val (.int c224), .val (.int c231), .val (.int c238), .val (.int c245), .val (.int c252), .val (.int c259), .val (.int c266), .val (.int c273), .val (.int c280), .val (.ref b283), .val (.int (0 : Int32)), .unset]) at_310 rfl rfl rfl ?_
    refine Wlk.iload (pc' := 314) (v := (0 : Int32)) at_312 rfl rfl ?_
    refine Wlk.ifF (pc' := 317) at_314 (show (0 : Int32) = (0 : Int32) from by decide) rfl ?_
    refine Wlk.iconst (pc' := 318) (v := (1 : Int32)) at_317 rfl rfl ?_
    refine Wlk.goto (pc' := 322) at_318 (by decide) (by decide) ?_
    refine Wlk.istore (pc' := 324) (Ls' := #[.val (.long p1), .second, .val (.long p2), .second, .val (.long p3), .second, .val (.int p4), .val (.int (0 : Int32)), .val (.int c217), .val (.int c224), .val (.int c231), .val (.int c238), .val (.int c245), .val (.int c252), .val (.int c259), .val (.int c266), .val (.int c273), .val (.int c280), .val (.ref b283), .val (.int (0 : Int32)), .val (.int (1 : Int32))]) at_322 rfl rfl rfl ?_
    refine Wlk.newO (pc' := 327) (C := "java/lang/String") at_324 (hw _ (List.mem_of_getElem? (i := 7) rfl)) (hw _ (List.mem_of_getElem? (i := 8) rfl)) (hw _ (List.mem_of_getElem? (i := 9) rfl)) (by decide) (by decide) rfl (fun b291 h292 le293 g294 E295 A296 D297 => ?_)
    have F298 : Fld Z h292 b291 "java/lang/String" "coder" "B" (.int (0 : Int32)) := D297 (Or.inr (hw _ (List.mem_of_getElem? (i := 33) rfl))) (ty := .byte) (by decide)
    have F299 : Fld Z h292 b291 "java/lang/String" "value" "[B" .null := D297 (Or.inr (hw _ (List.mem_of_getElem? (i := 35) rfl))) (ty := (.array .byte)) (by decide)
    refine Wlk.dup (pc' := 328) at_327 rfl rfl ?_
    refine Wlk.aload (pc' := 330) (v := (.ref b283)) at_328 rfl rfl rfl ?_
    have c300 := (A290.ext E295)
    refine Wlk.callCw (pc' := 333) (a := b291) (z := (⟨"java/lang/String", "<init>", "([C)V"⟩ : MethodName)) (argsL := [(.ref b283)]) (st := [(.ref b291)]) (W := 1) at_330 (hw _ (List.mem_of_getElem? (i := 10) rfl)) (hw _ (List.mem_of_getElem? (i := 11) rfl)) (hw _ (List.mem_of_getElem? (i := 9) rfl)) (hw _ (List.mem_of_getElem? (i := 12) rfl)) (by decide) rfl pd_11 rfl (st_emp1c hw b291 b283 (.int (0 : Int32)) kc285 [] (.int 0) [] [] h292 A296 F299 F298 g294 c300 wS hcw hh_7 (by first | exact hnT | decide)) (by decide) rfl (by decide) (by decide) (by decide) rfl rfl (fun v301 h302 J303 q304 => ?_)
    obtain ⟨c305, cb306, kb307, rfl, K308, n309, n310, n311, n312, n313, n314, n315, rfl⟩ := q304
    show Wlk _ _ _ _ _ _ _ _ _ h302 4 8 333 #[.val (.long p1), .second, .val (.long p2), .second, .val (.long p3), .second, .val (.int p4), .val (.int (0 : Int32)), .val (.int c217), .val (.int c224), .val (.int c231), .val (.int c238), .val (.int c245), .val (.int c252), .val (.int c259), .val (.int c266), .val (.int c273), .val (.int c280), .val (.ref b283), .val (.int (0 : Int32)), .val (.int (1 : Int32))] [(.ref b291)]
    have SE : StrL Z h302 b291 cb306 [] := ⟨n313, n314, n315, kb307, n312⟩
    refine Wlk.callSw (pc' := 336) (z := (⟨"com/example/wenyi/wenyi/request/YonyouSignature", "isSigned", "(Ljava/lang/String;)Z"⟩ : MethodName)) (argsL := [(.ref b291)]) (st := []) (W := 0) at_333 (hw _ (List.mem_of_getElem? (i := 36) rfl)) (hw _ (List.mem_of_getElem? (i := 37) rfl)) (hw _ (List.mem_of_getElem? (i := 38) rfl)) (hw _ (List.mem_of_getElem? (i := 39) rfl)) (by decide) pd_12 rfl (rm_sgn hw b291 cb306 [] zc ("" :: []) (("java/lang/String", 7, c305) :: []) h302 (SE.any rfl) O2 P3 wS hcw hh_25 (by decide) (fun x hx => nomatch hx) (Nat.le_of_ble_eq_true rfl)) (by decide) rfl (by decide) (by decide) (by decide) rfl rfl (fun v316 h317 J318 q319 => ?_)
    obtain ⟨c320, rfl, K321, rfl⟩ := q319
    show Wlk _ _ _ _ _ _ _ _ _ h317 6 48 336 #[.val (.long p1), .second, .val (.long p2), .second, .val (.long p3), .second, .val (.int p4), .val (.int (0 : Int32)), .val (.int c217), .val (.int c224), .val (.int c231), .val (.int c238), .val (.int c245), .val (.int c252), .val (.int c259), .val (.int c266), .val (.int c273), .val (.int c280), .val (.ref b283), .val (.int (0 : Int32)), .val (.int (1 : Int32))] [(.int (if [] = sigL then (0 : Int32) else 1))]
    refine Wlk.iload (pc' := 338) (v := (1 : Int32)) at_336 rfl rfl ?_
    refine Wlk.icF (pc' := 341) at_338 (show (if [] = sigL then (0 : Int32) else 1) = (1 : Int32) from (if_neg (fun (q : ([] : List Int32) = sigL) => absurd (congrArg List.length q) (show ¬ ((0 : Nat) = 9) by decide)))) rfl ?_
    refine Wlk.iconst (pc' := 342) (v := (1 : Int32)) at_341 rfl rfl ?_
    refine Wlk.goto (pc' := 346) at_342 (by decide) (by decide) ?_
    refine Wlk.ireturnN (t := .boolean) at_346 rfl (by simp) (by decide) (by decide) ?_
    exact rfl
  · skip
    refine Wlk.iload (pc' := 104) (v := (1 : Int32)) at_102 rfl rfl ?_
    refine Wlk.newP (pc' := 106) (ty := .char) (cap := 1) at_104 rfl (hw _ (List.mem_of_getElem? (i := 6) rfl)) (by decide) (by decide) (by decide) (by decide) (by decide) rfl (fun b322 h323 kc324 le325 g326 E327 A328 => ?_)
    have A329 : Arv Z h323 b322 kc324 .char (1 : Int32) [.int 0] (.int 0) := A328.pad (pad_rep [] (.int 0) 1)
    refine Wlk.astore (pc' := 108) (Ls' := #[.val (.long p1), .second, .val (.long p2), .second, .val (.long p3), .second, .val (.int p4), .val (.int (1 : Int32)), .val (.int c217), .val (.int c224), .val (.int c231), .val (.int c238), .val (.int c245), .val (.int c252), .val (.int c259), .val (.int c266), .val (.int c273), .val (.int c280), .val (.ref b322), .unset, .unset]) at_106 rfl rfl rfl rfl ?_
    refine Wlk.iload (pc' := 110) (v := (1 : Int32)) at_108 rfl rfl ?_
    refine Wlk.ifF (pc' := 113) at_110 (show (0 : Int32) < (1 : Int32) from by decide) rfl ?_
    refine Wlk.aload (pc' := 115) (v := (.ref b322)) at_113 rfl rfl rfl ?_
    refine Wlk.iconst (pc' := 116) (v := (0 : Int32)) at_115 rfl rfl ?_
    refine Wlk.iload (pc' := 118) (v := c217) at_116 rfl rfl ?_
    refine Wlk.castore (pc' := 119) (i := 0) at_118 A329 ⟨by decide, by decide⟩ rfl (Nat.le_of_ble_eq_true rfl) g326 rfl (fun h330 W331 A332 => ?_)
    rw [nar_char n218 n219] at A332
    have A333 : Arv Z h330 b322 kc324 .char (1 : Int32) [(.int c217)] (.int 0) := A332
    refine Wlk.iload (pc' := 121) (v := (1 : Int32)) at_119 rfl rfl ?_
    refine Wlk.iconst (pc' := 122) (v := (1 : Int32)) at_121 rfl rfl ?_
    refine Wlk.icT (pc' := 131) at_122 (by decide) (by decide) (show ¬ ((1 : Int32) < (1 : Int32)) from by decide) ?_
    refine Wlk.iload (pc' := 133) (v := (1 : Int32)) at_131 rfl rfl ?_
    refine Wlk.iconst (pc' := 134) (v := (2 : Int32)) at_133 rfl rfl ?_
    refine Wlk.icT (pc' := 143) at_134 (by decide) (by decide) (show ¬ ((2 : Int32) < (1 : Int32)) from by decide) ?_
    refine Wlk.iload (pc' := 145) (v := (1 : Int32)) at_143 rfl rfl ?_
    refine Wlk.iconst (pc' := 146) (v := (3 : Int32)) at_145 rfl rfl ?_
    refine Wlk.icT (pc' := 155) at_146 (by decide) (by decide) (show ¬ ((3 : Int32) < (1 : Int32)) from by decide) ?_
    refine Wlk.iload (pc' := 157) (v := (1 : Int32)) at_155 rfl rfl ?_
    refine Wlk.iconst (pc' := 158) (v := (4 : Int32)) at_157 rfl rfl ?_
    refine Wlk.icT (pc' := 167) at_158 (by decide) (by decide) (show ¬ ((4 : Int32) < (1 : Int32)) from by decide) ?_
    refine Wlk.iload (pc' := 169) (v := (1 : Int32)) at_167 rfl rfl ?_
    refine Wlk.iconst (pc' := 170) (v := (5 : Int32)) at_169 rfl rfl ?_
    refine Wlk.icT (pc' := 179) at_170 (by decide) (by decide) (show ¬ ((5 : Int32) < (1 : Int32)) from by decide) ?_
    refine Wlk.iload (pc' := 181) (v := (1 : Int32)) at_179 rfl rfl ?_
    refine Wlk.bipush (pc' := 183) (v := (6 : Int32)) at_181 (by decide) rfl ?_
    refine Wlk.icT (pc' := 193) at_183 (by decide) (by decide) (show ¬ ((6 : Int32) < (1 : Int32)) from by decide) ?_
    refine Wlk.iload (pc' := 195) (v := (1 : Int32)) at_193 rfl rfl ?_
    refine Wlk.bipush (pc' := 197) (v := (7 : Int32)) at_195 (by decide) rfl ?_
    refine Wlk.icT (pc' := 207) at_197 (by decide) (by decide) (show ¬ ((7 : Int32) < (1 : Int32)) from by decide) ?_
    refine Wlk.iload (pc' := 209) (v := (1 : Int32)) at_207 rfl rfl ?_
    refine Wlk.bipush (pc' := 211) (v := (8 : Int32)) at_209 (by decide) rfl ?_
    refine Wlk.icT (pc' := 221) at_211 (by decide) (by decide) (show ¬ ((8 : Int32) < (1 : Int32)) from by decide) ?_
    refine Wlk.iload (pc' := 223) (v := (1 : Int32)) at_221 rfl rfl ?_
    refine Wlk.bipush (pc' := 225) (v := (9 : Int32)) at_223 (by decide) rfl ?_
    refine Wlk.icT (pc' := 235) at_225 (by decide) (by decide) (show ¬ ((9 : Int32) < (1 : Int32)) from by decide) ?_
    refine Wlk.iload (pc' := 237) (v := (1 : Int32)) at_235 rfl rfl ?_
    refine Wlk.bipush (pc' := 239) (v := (9 : Int32)) at_237 (by decide) rfl ?_
    refine Wlk.icT (pc' := 309) at_239 (by decide) (by decide) (show ¬ ((1 : Int32) = (9 : Int32)) from by decide) ?_
    refine Wlk.iconst (pc' := 310) (v := (0 : Int32)) at_309 rfl rfl ?_
    refine Wlk.istore (pc' := 312) (Ls' := #[.val (.long p1), .second, .val (.long p2), .second, .val (.long p3), .second, .val (.int p4), .val (.int (1 : Int32)), .val (.int c217), .val (.int c224), .val (.int c231), .val (.int c238), .val (.int c245), .val (.int c252), .val (.int c259), .val (.int c266), .val (.int c273), .val (.int c280), .val (.ref b322), .val (.int (0 : Int32)), .unset]) at_310 rfl rfl rfl ?_
    refine Wlk.iload (pc' := 314) (v := (0 : Int32)) at_312 rfl rfl ?_
    refine Wlk.ifF (pc' := 317) at_314 (show (0 : Int32) = (0 : Int32) from by decide) rfl ?_
    refine Wlk.iconst (pc' := 318) (v := (1 : Int32)) at_317 rfl rfl ?_
    refine Wlk.goto (pc' := 322) at_318 (by decide) (by decide) ?_
    refine Wlk.istore (pc' := 324) (Ls' := #[.val (.long p1), .second, .val (.long p2), .second, .val (.long p3), .second, .val (.int p4), .val (.int (1 : Int32)), .val (.int c217), .val (.int c224), .val (.int c231), .val (.int c238), .val (.int c245), .val (.int c252), .val (.int c259), .val (.int c266), .val (.int c273), .val (.int c280), .val (.ref b322), .val (.int (0 : Int32)), .val (.int (1 : Int32))]) at_322 rfl rfl rfl ?_
    refine Wlk.newO (pc' := 327) (C := "java/lang/String") at_324 (hw _ (List.mem_of_getElem? (i := 7) rfl)) (hw _ (List.mem_of_getElem? (i := 8) rfl)) (hw _ (List.mem_of_getElem? (i := 9) rfl)) (by decide) (by decide) rfl (fun b334 h335 le336 g337 E338 A339 D340 => ?_)
    have F341 : Fld Z h335 b334 "java/lang/String" "coder" "B" (.int (0 : Int32)) := D340 (Or.inr (hw _ (List.mem_of_getElem? (i := 33) rfl))) (ty := .byte) (by decide)
    have F342 : Fld Z h335 b334 "java/lang/String" "value" "[B" .null := D340 (Or.inr (hw _ (List.mem_of_getElem? (i := 35) rfl))) (ty := (.array .byte)) (by decide)
    refine Wlk.dup (pc' := 328) at_327 rfl rfl ?_
    refine Wlk.aload (pc' := 330) (v := (.ref b322)) at_328 rfl rfl rfl ?_
    have hR343 : ∀ c ∈ [c217], ¬ c < 0 ∧ ¬ (65535 : Int32) < c := by
      intro c hc
      simp only [List.mem_cons, List.not_mem_nil, or_false] at hc
      subst hc
      exact ⟨n218, n219⟩
    have c344 := (A333.ext E338)
    refine Wlk.callC (pc' := 333) (a := b334) (z := (⟨"java/lang/String", "<init>", "([C)V"⟩ : MethodName)) (argsL := [(.ref b322)]) (st := [(.ref b334)]) (W := 1) at_330 (hw _ (List.mem_of_getElem? (i := 10) rfl)) (hw _ (List.mem_of_getElem? (i := 11) rfl)) (hw _ (List.mem_of_getElem? (i := 9) rfl)) (hw _ (List.mem_of_getElem? (i := 12) rfl)) (by decide) rfl pd_11 rfl (st_ini1A hw b334 b322 .null (.int (0 : Int32)) kc324 [c217] (.int 0) zc h335 q0_Sta q1_Sta q2_Sta A339 F342 F341 g337 c344 O2 P3 (by first | exact hn | exact Nat.le_of_ble_eq_true rfl) (by first | exact hp | exact Nat.le_of_ble_eq_true rfl) hR343) (by decide) rfl (by decide) (by decide) (by decide) rfl rfl (fun v345 h346 J347 q348 => ?_)
    obtain ⟨t349, rfl, le350, g351, K352, n353⟩ := q348
    show Wlk _ _ _ _ _ _ _ _ _ h346 4 35 333 #[.val (.long p1), .second, .val (.long p2), .second, .val (.long p3), .second, .val (.int p4), .val (.int (1 : Int32)), .val (.int c217), .val (.int c224), .val (.int c231), .val (.int c238), .val (.int c245), .val (.int c252), .val (.int c259), .val (.int c266), .val (.int c273), .val (.int c280), .val (.ref b322), .val (.int (0 : Int32)), .val (.int (1 : Int32))] [(.ref b334)]
    refine Wlk.callSw (pc' := 336) (z := (⟨"com/example/wenyi/wenyi/request/YonyouSignature", "isSigned", "(Ljava/lang/String;)Z"⟩ : MethodName)) (argsL := [(.ref b334)]) (st := []) (W := 0) at_333 (hw _ (List.mem_of_getElem? (i := 36) rfl)) (hw _ (List.mem_of_getElem? (i := 37) rfl)) (hw _ (List.mem_of_getElem? (i := 38) rfl)) (hw _ (List.mem_of_getElem? (i := 39) rfl)) (by decide) pd_12 rfl (rm_sgn hw b334 t349 [c217] zc [] [] h346 n353 O2 P3 wS hcw hh_25 (by decide) (fun x hx => (hR343 x hx).1) (Nat.le_of_ble_eq_true rfl)) (by decide) rfl (by decide) (by decide) (by decide) rfl rfl (fun v354 h355 J356 q357 => ?_)
    obtain ⟨c358, rfl, K359, rfl⟩ := q357
    show Wlk _ _ _ _ _ _ _ _ _ h355 6 75 336 #[.val (.long p1), .second, .val (.long p2), .second, .val (.long p3), .second, .val (.int p4), .val (.int (1 : Int32)), .val (.int c217), .val (.int c224), .val (.int c231), .val (.int c238), .val (.int c245), .val (.int c252), .val (.int c259), .val (.int c266), .val (.int c273), .val (.int c280), .val (.ref b322), .val (.int (0 : Int32)), .val (.int (1 : Int32))] [(.int (if [c217] = sigL then (0 : Int32) else 1))]
    refine Wlk.iload (pc' := 338) (v := (1 : Int32)) at_336 rfl rfl ?_
    refine Wlk.icF (pc' := 341) at_338 (show (if [c217] = sigL then (0 : Int32) else 1) = (1 : Int32) from (if_neg (fun (q : [c217] = sigL) => absurd (congrArg List.length q) (show ¬ ((1 : Nat) = 9) by decide)))) rfl ?_
    refine Wlk.iconst (pc' := 342) (v := (1 : Int32)) at_341 rfl rfl ?_
    refine Wlk.goto (pc' := 346) at_342 (by decide) (by decide) ?_
    refine Wlk.ireturnN (t := .boolean) at_346 rfl (by simp) (by decide) (by decide) ?_
    exact rfl
  · skip
    refine Wlk.iload (pc' := 104) (v := (2 : Int32)) at_102 rfl rfl ?_
    refine Wlk.newP (pc' := 106) (ty := .char) (cap := 2) at_104 rfl (hw _ (List.mem_of_getElem? (i := 6) rfl)) (by decide) (by decide) (by decide) (by decide) (by decide) rfl (fun b360 h361 kc362 le363 g364 E365 A366 => ?_)
    have A367 : Arv Z h361 b360 kc362 .char (2 : Int32) [.int 0, .int 0] (.int 0) := A366.pad (pad_rep [] (.int 0) 2)
    refine Wlk.astore (pc' := 108) (Ls' := #[.val (.long p1), .second, .val (.long p2), .second, .val (.long p3), .second, .val (.int p4), .val (.int (2 : Int32)), .val (.int c217), .val (.int c224), .val (.int c231), .val (.int c238), .val (.int c245), .val (.int c252), .val (.int c259), .val (.int c266), .val (.int c273), .val (.int c280), .val (.ref b360), .unset, .unset]) at_106 rfl rfl rfl rfl ?_
    refine Wlk.iload (pc' := 110) (v := (2 : Int32)) at_108 rfl rfl ?_
    refine Wlk.ifF (pc' := 113) at_110 (show (0 : Int32) < (2 : Int32) from by decide) rfl ?_
    refine Wlk.aload (pc' := 115) (v := (.ref b360)) at_113 rfl rfl rfl ?_
    refine Wlk.iconst (pc' := 116) (v := (0 : Int32)) at_115 rfl rfl ?_
    refine Wlk.iload (pc' := 118) (v := c217) at_116 rfl rfl ?_
    refine Wlk.castore (pc' := 119) (i := 0) at_118 A367 ⟨by decide, by decide⟩ rfl (Nat.le_of_ble_eq_true rfl) g364 rfl (fun h368 W369 A370 => ?_)
    rw [nar_char n218 n219] at A370
    have A371 : Arv Z h368 b360 kc362 .char (2 : Int32) [(.int c217), (.int (0 : Int32))] (.int 0) := A370
    refine Wlk.iload (pc' := 121) (v := (2 : Int32)) at_119 rfl rfl ?_
    refine Wlk.iconst (pc' := 122) (v := (1 : Int32)) at_121 rfl rfl ?_
    refine Wlk.icF (pc' := 125) at_122 (show (1 : Int32) < (2 : Int32) from by decide) rfl ?_
    refine Wlk.aload (pc' := 127) (v := (.ref b360)) at_125 rfl rfl rfl ?_
    refine Wlk.iconst (pc' := 128) (v := (1 : Int32)) at_127 rfl rfl ?_
    refine Wlk.iload (pc' := 130) (v := c224) at_128 rfl rfl ?_
    refine Wlk.castore (pc' := 131) (i := 1) at_130 A371 ⟨by decide, by decide⟩ rfl (Nat.le_of_ble_eq_true rfl) g364 rfl (fun h372 W373 A374 => ?_)
    rw [nar_char n225 n226] at A374
    have A375 : Arv Z h372 b360 kc362 .char (2 : Int32) [(.int c217), (.int c224)] (.int 0) := A374
    refine Wlk.iload (pc' := 133) (v := (2 : Int32)) at_131 rfl rfl ?_
    refine Wlk.iconst (pc' := 134) (v := (2 : Int32)) at_133 rfl rfl ?_
    refine Wlk.icT (pc' := 143) at_134 (by decide) (by decide) (show ¬ ((2 : Int32) < (2 : Int32)) from by decide) ?_
    refine Wlk.iload (pc' := 145) (v := (2 : Int32)) at_143 rfl rfl ?_
    refine Wlk.iconst (pc' := 146) (v := (3 : Int32)) at_145 rfl rfl ?_
    refine Wlk.icT (pc' := 155) at_146 (by decide) (by decide) (show ¬ ((3 : Int32) < (2 : Int32)) from by decide) ?_
    refine Wlk.iload (pc' := 157) (v := (2 : Int32)) at_155 rfl rfl ?_
    refine Wlk.iconst (pc' := 158) (v := (4 : Int32)) at_157 rfl rfl ?_
    refine Wlk.icT (pc' := 167) at_158 (by decide) (by decide) (show ¬ ((4 : Int32) < (2 : Int32)) from by decide) ?_
    refine Wlk.iload (pc' := 169) (v := (2 : Int32)) at_167 rfl rfl ?_
    refine Wlk.iconst (pc' := 170) (v := (5 : Int32)) at_169 rfl rfl ?_
    refine Wlk.icT (pc' := 179) at_170 (by decide) (by decide) (show ¬ ((5 : Int32) < (2 : Int32)) from by decide) ?_
    refine Wlk.iload (pc' := 181) (v := (2 : Int32)) at_179 rfl rfl ?_
    refine Wlk.bipush (pc' := 183) (v := (6 : Int32)) at_181 (by decide) rfl ?_
    refine Wlk.icT (pc' := 193) at_183 (by decide) (by decide) (show ¬ ((6 : Int32) < (2 : Int32)) from by decide) ?_
    refine Wlk.iload (pc' := 195) (v := (2 : Int32)) at_193 rfl rfl ?_
    refine Wlk.bipush (pc' := 197) (v := (7 : Int32)) at_195 (by decide) rfl ?_
    refine Wlk.icT (pc' := 207) at_197 (by decide) (by decide) (show ¬ ((7 : Int32) < (2 : Int32)) from by decide) ?_
    refine Wlk.iload (pc' := 209) (v := (2 : Int32)) at_207 rfl rfl ?_
    refine Wlk.bipush (pc' := 211) (v := (8 : Int32)) at_209 (by decide) rfl ?_
    refine Wlk.icT (pc' := 221) at_211 (by decide) (by decide) (show ¬ ((8 : Int32) < (2 : Int32)) from by decide) ?_
    refine Wlk.iload (pc' := 223) (v := (2 : Int32)) at_221 rfl rfl ?_
    refine Wlk.bipush (pc' := 225) (v := (9 : Int32)) at_223 (by decide) rfl ?_
    refine Wlk.icT (pc' := 235) at_225 (by decide) (by decide) (show ¬ ((9 : Int32) < (2 : Int32)) from by decide) ?_
    refine Wlk.iload (pc' := 237) (v := (2 : Int32)) at_235 rfl rfl ?_
    refine Wlk.bipush (pc' := 239) (v := (9 : Int32)) at_237 (by decide) rfl ?_
    refine Wlk.icT (pc' := 309) at_239 (by decide) (by decide) (show ¬ ((2 : Int32) = (9 : Int32)) from by decide) ?_
    refine Wlk.iconst (pc' := 310) (v := (0 : Int32)) at_309 rfl rfl ?_
    refine Wlk.istore (pc' := 312) (Ls' := #[.val (.long p1), .second, .val (.long p2), .second, .val (.long p3), .second, .val (.int p4), .val (.int (2 : Int32)), .val (.int c217), .val (.int c224), .val (.int c231), .val (.int c238), .val (.int c245), .val (.int c252), .val (.int c259), .val (.int c266), .val (.int c273), .val (.int c280), .val (.ref b360), .val (.int (0 : Int32)), .unset]) at_310 rfl rfl rfl ?_
    refine Wlk.iload (pc' := 314) (v := (0 : Int32)) at_312 rfl rfl ?_
    refine Wlk.ifF (pc' := 317) at_314 (show (0 : Int32) = (0 : Int32) from by decide) rfl ?_
    refine Wlk.iconst (pc' := 318) (v := (1 : Int32)) at_317 rfl rfl ?_
    refine Wlk.goto (pc' := 322) at_318 (by decide) (by decide) ?_
    refine Wlk.istore (pc' := 324) (Ls' := #[.val (.long p1), .second, .val (.long p2), .second, .val (.long p3), .second, .val (.int p4), .val (.int (2 : Int32)), .val (.int c217), .val (.int c224), .val (.int c231), .val (.int c238), .val (.int c245), .val (.int c252), .val (.int c259), .val (.int c266), .val (.int c273), .val (.int c280), .val (.ref b360), .val (.int (0 : Int32)), .val (.int (1 : Int32))]) at_322 rfl rfl rfl ?_
    refine Wlk.newO (pc' := 327) (C := "java/lang/String") at_324 (hw _ (List.mem_of_getElem? (i := 7) rfl)) (hw _ (List.mem_of_getElem? (i := 8) rfl)) (hw _ (List.mem_of_getElem? (i := 9) rfl)) (by decide) (by decide) rfl (fun b376 h377 le378 g379 E380 A381 D382 => ?_)
    have F383 : Fld Z h377 b376 "java/lang/String" "coder" "B" (.int (0 : Int32)) := D382 (Or.inr (hw _ (List.mem_of_getElem? (i := 33) rfl))) (ty := .byte) (by decide)
    have F384 : Fld Z h377 b376 "java/lang/String" "value" "[B" .null := D382 (Or.inr (hw _ (List.mem_of_getElem? (i := 35) rfl))) (ty := (.array .byte)) (by decide)
    refine Wlk.dup (pc' := 328) at_327 rfl rfl ?_
    refine Wlk.aload (pc' := 330) (v := (.ref b360)) at_328 rfl rfl rfl ?_
    have hR385 : ∀ c ∈ [c217, c224], ¬ c < 0 ∧ ¬ (65535 : Int32) < c := by
      intro c hc
      simp only [List.mem_cons, List.not_mem_nil, or_false] at hc
      rcases hc with hc | hc
      · rw [hc]; exact ⟨n218, n219⟩
      · rw [hc]; exact ⟨n225, n226⟩
    have c386 := (A375.ext E380)
    refine Wlk.callC (pc' := 333) (a := b376) (z := (⟨"java/lang/String", "<init>", "([C)V"⟩ : MethodName)) (argsL := [(.ref b360)]) (st := [(.ref b376)]) (W := 1) at_330 (hw _ (List.mem_of_getElem? (i := 10) rfl)) (hw _ (List.mem_of_getElem? (i := 11) rfl)) (hw _ (List.mem_of_getElem? (i := 9) rfl)) (hw _ (List.mem_of_getElem? (i := 12) rfl)) (by decide) rfl pd_11 rfl (st_ini1A hw b376 b360 .null (.int (0 : Int32)) kc362 [c217, c224] (.int 0) zc h377 q0_Sta q1_Sta q2_Sta A381 F384 F383 g379 c386 O2 P3 (by first | exact hn | exact Nat.le_of_ble_eq_true rfl) (by first | exact hp | exact Nat.le_of_ble_eq_true rfl) hR385) (by decide) rfl (by decide) (by decide) (by decide) rfl rfl (fun v387 h388 J389 q390 => ?_)
    obtain ⟨t391, rfl, le392, g393, K394, n395⟩ := q390
    show Wlk _ _ _ _ _ _ _ _ _ h388 4 36 333 #[.val (.long p1), .second, .val (.long p2), .second, .val (.long p3), .second, .val (.int p4), .val (.int (2 : Int32)), .val (.int c217), .val (.int c224), .val (.int c231), .val (.int c238), .val (.int c245), .val (.int c252), .val (.int c259), .val (.int c266), .val (.int c273), .val (.int c280), .val (.ref b360), .val (.int (0 : Int32)), .val (.int (1 : Int32))] [(.ref b376)]
    refine Wlk.callSw (pc' := 336) (z := (⟨"com/example/wenyi/wenyi/request/YonyouSignature", "isSigned", "(Ljava/lang/String;)Z"⟩ : MethodName)) (argsL := [(.ref b376)]) (st := []) (W := 0) at_333 (hw _ (List.mem_of_getElem? (i := 36) rfl)) (hw _ (List.mem_of_getElem? (i := 37) rfl)) (hw _ (List.mem_of_getElem? (i := 38) rfl)) (hw _ (List.mem_of_getElem? (i := 39) rfl)) (by decide) pd_12 rfl (rm_sgn hw b376 t391 [c217, c224] zc [] [] h388 n395 O2 P3 wS hcw hh_25 (by decide) (fun x hx => (hR385 x hx).1) (Nat.le_of_ble_eq_true rfl)) (by decide) rfl (by decide) (by decide) (by decide) rfl rfl (fun v396 h397 J398 q399 => ?_)
    obtain ⟨c400, rfl, K401, rfl⟩ := q399
    show Wlk _ _ _ _ _ _ _ _ _ h397 6 76 336 #[.val (.long p1), .second, .val (.long p2), .second, .val (.long p3), .second, .val (.int p4), .val (.int (2 : Int32)), .val (.int c217), .val (.int c224), .val (.int c231), .val (.int c238), .val (.int c245), .val (.int c252), .val (.int c259), .val (.int c266), .val (.int c273), .val (.int c280), .val (.ref b360), .val (.int (0 : Int32)), .val (.int (1 : Int32))] [(.int (if [c217, c224] = sigL then (0 : Int32) else 1))]
    refine Wlk.iload (pc' := 338) (v := (1 : Int32)) at_336 rfl rfl ?_
    refine Wlk.icF (pc' := 341) at_338 (show (if [c217, c224] = sigL then (0 : Int32) else 1) = (1 : Int32) from (if_neg (fun (q : [c217, c224] = sigL) => absurd (congrArg List.length q) (show ¬ ((2 : Nat) = 9) by decide)))) rfl ?_
    refine Wlk.iconst (pc' := 342) (v := (1 : Int32)) at_341 rfl rfl ?_
    refine Wlk.goto (pc' := 346) at_342 (by decide) (by decide) ?_
    refine Wlk.ireturnN (t := .boolean) at_346 rfl (by simp) (by decide) (by decide) ?_
    exact rfl
  · skip
    refine Wlk.iload (pc' := 104) (v := (3 : Int32)) at_102 rfl rfl ?_
    refine Wlk.newP (pc' := 106) (ty := .char) (cap := 3) at_104 rfl (hw _ (List.mem_of_getElem? (i := 6) rfl)) (by decide) (by decide) (by decide) (by decide) (by decide) rfl (fun b402 h403 kc404 le405 g406 E407 A408 => ?_)
    have A409 : Arv Z h403 b402 kc404 .char (3 : Int32) [.int 0, .int 0, .int 0] (.int 0) := A408.pad (pad_rep [] (.int 0) 3)
    refine Wlk.astore (pc' := 108) (Ls' := #[.val (.long p1), .second, .val (.long p2), .second, .val (.long p3), .second, .val (.int p4), .val (.int (3 : Int32)), .val (.int c217), .val (.int c224), .val (.int c231), .val (.int c238), .val (.int c245), .val (.int c252), .val (.int c259), .val (.int c266), .val (.int c273), .val (.int c280), .val (.ref b402), .unset, .unset]) at_106 rfl rfl rfl rfl ?_
    refine Wlk.iload (pc' := 110) (v := (3 : Int32)) at_108 rfl rfl ?_
    refine Wlk.ifF (pc' := 113) at_110 (show (0 : Int32) < (3 : Int32) from by decide) rfl ?_
    refine Wlk.aload (pc' := 115) (v := (.ref b402)) at_113 rfl rfl rfl ?_
    refine Wlk.iconst (pc' := 116) (v := (0 : Int32)) at_115 rfl rfl ?_
    refine Wlk.iload (pc' := 118) (v := c217) at_116 rfl rfl ?_
    refine Wlk.castore (pc' := 119) (i := 0) at_118 A409 ⟨by decide, by decide⟩ rfl (Nat.le_of_ble_eq_true rfl) g406 rfl (fun h410 W411 A412 => ?_)
    rw [nar_char n218 n219] at A412
    have A413 : Arv Z h410 b402 kc404 .char (3 : Int32) [(.int c217), (.int (0 : Int32)), (.int (0 : Int32))] (.int 0) := A412
    refine Wlk.iload (pc' := 121) (v := (3 : Int32)) at_119 rfl rfl ?_
    refine Wlk.iconst (pc' := 122) (v := (1 : Int32)) at_121 rfl rfl ?_
    refine Wlk.icF (pc' := 125) at_122 (show (1 : Int32) < (3 : Int32) from by decide) rfl ?_
    refine Wlk.aload (pc' := 127) (v := (.ref b402)) at_125 rfl rfl rfl ?_
    refine Wlk.iconst (pc' := 128) (v := (1 : Int32)) at_127 rfl rfl ?_
    refine Wlk.iload (pc' := 130) (v := c224) at_128 rfl rfl ?_
    refine Wlk.castore (pc' := 131) (i := 1) at_130 A413 ⟨by decide, by decide⟩ rfl (Nat.le_of_ble_eq_true rfl) g406 rfl (fun h414 W415 A416 => ?_)
    rw [nar_char n225 n226] at A416
    have A417 : Arv Z h414 b402 kc404 .char (3 : Int32) [(.int c217), (.int c224), (.int (0 : Int32))] (.int 0) := A416
    refine Wlk.iload (pc' := 133) (v := (3 : Int32)) at_131 rfl rfl ?_
    refine Wlk.iconst (pc' := 134) (v := (2 : Int32)) at_133 rfl rfl ?_
    refine Wlk.icF (pc' := 137) at_134 (show (2 : Int32) < (3 : Int32) from by decide) rfl ?_
    refine Wlk.aload (pc' := 139) (v := (.ref b402)) at_137 rfl rfl rfl ?_
    refine Wlk.iconst (pc' := 140) (v := (2 : Int32)) at_139 rfl rfl ?_
    refine Wlk.iload (pc' := 142) (v := c231) at_140 rfl rfl ?_
    refine Wlk.castore (pc' := 143) (i := 2) at_142 A417 ⟨by decide, by decide⟩ rfl (Nat.le_of_ble_eq_true rfl) g406 rfl (fun h418 W419 A420 => ?_)
    rw [nar_char n232 n233] at A420
    have A421 : Arv Z h418 b402 kc404 .char (3 : Int32) [(.int c217), (.int c224), (.int c231)] (.int 0) := A420
    refine Wlk.iload (pc' := 145) (v := (3 : Int32)) at_143 rfl rfl ?_
    refine Wlk.iconst (pc' := 146) (v := (3 : Int32)) at_145 rfl rfl ?_
    refine Wlk.icT (pc' := 155) at_146 (by decide) (by decide) (show ¬ ((3 : Int32) < (3 : Int32)) from by decide) ?_
    refine Wlk.iload (pc' := 157) (v := (3 : Int32)) at_155 rfl rfl ?_
    refine Wlk.iconst (pc' := 158) (v := (4 : Int32)) at_157 rfl rfl ?_
    refine Wlk.icT (pc' := 167) at_158 (by decide) (by decide) (show ¬ ((4 : Int32) < (3 : Int32)) from by decide) ?_
    refine Wlk.iload (pc' := 169) (v := (3 : Int32)) at_167 rfl rfl ?_
    refine Wlk.iconst (pc' := 170) (v := (5 : Int32)) at_169 rfl rfl ?_
    refine Wlk.icT (pc' := 179) at_170 (by decide) (by decide) (show ¬ ((5 : Int32) < (3 : Int32)) from by decide) ?_
    refine Wlk.iload (pc' := 181) (v := (3 : Int32)) at_179 rfl rfl ?_
    refine Wlk.bipush (pc' := 183) (v := (6 : Int32)) at_181 (by decide) rfl ?_
    refine Wlk.icT (pc' := 193) at_183 (by decide) (by decide) (show ¬ ((6 : Int32) < (3 : Int32)) from by decide) ?_
    refine Wlk.iload (pc' := 195) (v := (3 : Int32)) at_193 rfl rfl ?_
    refine Wlk.bipush (pc' := 197) (v := (7 : Int32)) at_195 (by decide) rfl ?_
    refine Wlk.icT (pc' := 207) at_197 (by decide) (by decide) (show ¬ ((7 : Int32) < (3 : Int32)) from by decide) ?_
    refine Wlk.iload (pc' := 209) (v := (3 : Int32)) at_207 rfl rfl ?_
    refine Wlk.bipush (pc' := 211) (v := (8 : Int32)) at_209 (by decide) rfl ?_
    refine Wlk.icT (pc' := 221) at_211 (by decide) (by decide) (show ¬ ((8 : Int32) < (3 : Int32)) from by decide) ?_
    refine Wlk.iload (pc' := 223) (v := (3 : Int32)) at_221 rfl rfl ?_
    refine Wlk.bipush (pc' := 225) (v := (9 : Int32)) at_223 (by decide) rfl ?_
    refine Wlk.icT (pc' := 235) at_225 (by decide) (by decide) (show ¬ ((9 : Int32) < (3 : Int32)) from by decide) ?_
    refine Wlk.iload (pc' := 237) (v := (3 : Int32)) at_235 rfl rfl ?_
    refine Wlk.bipush (pc' := 239) (v := (9 : Int32)) at_237 (by decide) rfl ?_
    refine Wlk.icT (pc' := 309) at_239 (by decide) (by decide) (show ¬ ((3 : Int32) = (9 : Int32)) from by decide) ?_
    refine Wlk.iconst (pc' := 310) (v := (0 : Int32)) at_309 rfl rfl ?_
    refine Wlk.istore (pc' := 312) (Ls' := #[.val (.long p1), .second, .val (.long p2), .second, .val (.long p3), .second, .val (.int p4), .val (.int (3 : Int32)), .val (.int c217), .val (.int c224), .val (.int c231), .val (.int c238), .val (.int c245), .val (.int c252), .val (.int c259), .val (.int c266), .val (.int c273), .val (.int c280), .val (.ref b402), .val (.int (0 : Int32)), .unset]) at_310 rfl rfl rfl ?_
    refine Wlk.iload (pc' := 314) (v := (0 : Int32)) at_312 rfl rfl ?_
    refine Wlk.ifF (pc' := 317) at_314 (show (0 : Int32) = (0 : Int32) from by decide) rfl ?_
    refine Wlk.iconst (pc' := 318) (v := (1 : Int32)) at_317 rfl rfl ?_
    refine Wlk.goto (pc' := 322) at_318 (by decide) (by decide) ?_
    refine Wlk.istore (pc' := 324) (Ls' := #[.val (.long p1), .second, .val (.long p2), .second, .val (.long p3), .second, .val (.int p4), .val (.int (3 : Int32)), .val (.int c217), .val (.int c224), .val (.int c231), .val (.int c238), .val (.int c245), .val (.int c252), .val (.int c259), .val (.int c266), .val (.int c273), .val (.int c280), .val (.ref b402), .val (.int (0 : Int32)), .val (.int (1 : Int32))]) at_322 rfl rfl rfl ?_
    refine Wlk.newO (pc' := 327) (C := "java/lang/String") at_324 (hw _ (List.mem_of_getElem? (i := 7) rfl)) (hw _ (List.mem_of_getElem? (i := 8) rfl)) (hw _ (List.mem_of_getElem? (i := 9) rfl)) (by decide) (by decide) rfl (fun b422 h423 le424 g425 E426 A427 D428 => ?_)
    have F429 : Fld Z h423 b422 "java/lang/String" "coder" "B" (.int (0 : Int32)) := D428 (Or.inr (hw _ (List.mem_of_getElem? (i := 33) rfl))) (ty := .byte) (by decide)
    have F430 : Fld Z h423 b422 "java/lang/String" "value" "[B" .null := D428 (Or.inr (hw _ (List.mem_of_getElem? (i := 35) rfl))) (ty := (.array .byte)) (by decide)
    refine Wlk.dup (pc' := 328) at_327 rfl rfl ?_
    refine Wlk.aload (pc' := 330) (v := (.ref b402)) at_328 rfl rfl rfl ?_
    have hR431 : ∀ c ∈ [c217, c224, c231], ¬ c < 0 ∧ ¬ (65535 : Int32) < c := by
      intro c hc
      simp only [List.mem_cons, List.not_mem_nil, or_false] at hc
      rcases hc with hc | hc | hc
      · rw [hc]; exact ⟨n218, n219⟩
      · rw [hc]; exact ⟨n225, n226⟩
      · rw [hc]; exact ⟨n232, n233⟩
    have c432 := (A421.ext E426)
    refine Wlk.callC (pc' := 333) (a := b422) (z := (⟨"java/lang/String", "<init>", "([C)V"⟩ : MethodName)) (argsL := [(.ref b402)]) (st := [(.ref b422)]) (W := 1) at_330 (hw _ (List.mem_of_getElem? (i := 10) rfl)) (hw _ (List.mem_of_getElem? (i := 11) rfl)) (hw _ (List.mem_of_getElem? (i := 9) rfl)) (hw _ (List.mem_of_getElem? (i := 12) rfl)) (by decide) rfl pd_11 rfl (st_ini1A hw b422 b402 .null (.int (0 : Int32)) kc404 [c217, c224, c231] (.int 0) zc h423 q0_Sta q1_Sta q2_Sta A427 F430 F429 g425 c432 O2 P3 (by first | exact hn | exact Nat.le_of_ble_eq_true rfl) (by first | exact hp | exact Nat.le_of_ble_eq_true rfl) hR431) (by decide) rfl (by decide) (by decide) (by decide) rfl rfl (fun v433 h434 J435 q436 => ?_)
    obtain ⟨t437, rfl, le438, g439, K440, n441⟩ := q436
    show Wlk _ _ _ _ _ _ _ _ _ h434 4 37 333 #[.val (.long p1), .second, .val (.long p2), .second, .val (.long p3), .second, .val (.int p4), .val (.int (3 : Int32)), .val (.int c217), .val (.int c224), .val (.int c231), .val (.int c238), .val (.int c245), .val (.int c252), .val (.int c259), .val (.int c266), .val (.int c273), .val (.int c280), .val (.ref b402), .val (.int (0 : Int32)), .val (.int (1 : Int32))] [(.ref b422)]
    refine Wlk.callSw (pc' := 336) (z := (⟨"com/example/wenyi/wenyi/request/YonyouSignature", "isSigned", "(Ljava/lang/String;)Z"⟩ : MethodName)) (argsL := [(.ref b422)]) (st := []) (W := 0) at_333 (hw _ (List.mem_of_getElem? (i := 36) rfl)) (hw _ (List.mem_of_getElem? (i := 37) rfl)) (hw _ (List.mem_of_getElem? (i := 38) rfl)) (hw _ (List.mem_of_getElem? (i := 39) rfl)) (by decide) pd_12 rfl (rm_sgn hw b422 t437 [c217, c224, c231] zc [] [] h434 n441 O2 P3 wS hcw hh_25 (by decide) (fun x hx => (hR431 x hx).1) (Nat.le_of_ble_eq_true rfl)) (by decide) rfl (by decide) (by decide) (by decide) rfl rfl (fun v442 h443 J444 q445 => ?_)
    obtain ⟨c446, rfl, K447, rfl⟩ := q445
    show Wlk _ _ _ _ _ _ _ _ _ h443 6 77 336 #[.val (.long p1), .second, .val (.long p2), .second, .val (.long p3), .second, .val (.int p4), .val (.int (3 : Int32)), .val (.int c217), .val (.int c224), .val (.int c231), .val (.int c238), .val (.int c245), .val (.int c252), .val (.int c259), .val (.int c266), .val (.int c273), .val (.int c280), .val (.ref b402), .val (.int (0 : Int32)), .val (.int (1 : Int32))] [(.int (if [c217, c224, c231] = sigL then (0 : Int32) else 1))]
    refine Wlk.iload (pc' := 338) (v := (1 : Int32)) at_336 rfl rfl ?_
    refine Wlk.icF (pc' := 341) at_338 (show (if [c217, c224, c231] = sigL then (0 : Int32) else 1) = (1 : Int32) from (if_neg (fun (q : [c217, c224, c231] = sigL) => absurd (congrArg List.length q) (show ¬ ((3 : Nat) = 9) by decide)))) rfl ?_
    refine Wlk.iconst (pc' := 342) (v := (1 : Int32)) at_341 rfl rfl ?_
    refine Wlk.goto (pc' := 346) at_342 (by decide) (by decide) ?_
    refine Wlk.ireturnN (t := .boolean) at_346 rfl (by simp) (by decide) (by decide) ?_
    exact rfl
  · skip
    refine Wlk.iload (pc' := 104) (v := (4 : Int32)) at_102 rfl rfl ?_
    refine Wlk.newP (pc' := 106) (ty := .char) (cap := 4) at_104 rfl (hw _ (List.mem_of_getElem? (i := 6) rfl)) (by decide) (by decide) (by decide) (by decide) (by decide) rfl (fun b448 h449 kc450 le451 g452 E453 A454 => ?_)
    have A455 : Arv Z h449 b448 kc450 .char (4 : Int32) [.int 0, .int 0, .int 0, .int 0] (.int 0) := A454.pad (pad_rep [] (.int 0) 4)
    refine Wlk.astore (pc' := 108) (Ls' := #[.val (.long p1), .second, .val (.long p2), .second, .val (.long p3), .second, .val (.int p4), .val (.int (4 : Int32)), .val (.int c217), .val (.int c224), .val (.int c231), .val (.int c238), .val (.int c245), .val (.int c252), .val (.int c259), .val (.int c266), .val (.int c273), .val (.int c280), .val (.ref b448), .unset, .unset]) at_106 rfl rfl rfl rfl ?_
    refine Wlk.iload (pc' := 110) (v := (4 : Int32)) at_108 rfl rfl ?_
    refine Wlk.ifF (pc' := 113) at_110 (show (0 : Int32) < (4 : Int32) from by decide) rfl ?_
    refine Wlk.aload (pc' := 115) (v := (.ref b448)) at_113 rfl rfl rfl ?_
    refine Wlk.iconst (pc' := 116) (v := (0 : Int32)) at_115 rfl rfl ?_
    refine Wlk.iload (pc' := 118) (v := c217) at_116 rfl rfl ?_
    refine Wlk.castore (pc' := 119) (i := 0) at_118 A455 ⟨by decide, by decide⟩ rfl (Nat.le_of_ble_eq_true rfl) g452 rfl (fun h456 W457 A458 => ?_)
    rw [nar_char n218 n219] at A458
    have A459 : Arv Z h456 b448 kc450 .char (4 : Int32) [(.int c217), (.int (0 : Int32)), (.int (0 : Int32)), (.int (0 : Int32))] (.int 0) := A458
    refine Wlk.iload (pc' := 121) (v := (4 : Int32)) at_119 rfl rfl ?_
    refine Wlk.iconst (pc' := 122) (v := (1 : Int32)) at_121 rfl rfl ?_
    refine Wlk.icF (pc' := 125) at_122 (show (1 : Int32) < (4 : Int32) from by decide) rfl ?_
    refine Wlk.aload (pc' := 127) (v := (.ref b448)) at_125 rfl rfl rfl ?_
    refine Wlk.iconst (pc' := 128) (v := (1 : Int32)) at_127 rfl rfl ?_
    refine Wlk.iload (pc' := 130) (v := c224) at_128 rfl rfl ?_
    refine Wlk.castore (pc' := 131) (i := 1) at_130 A459 ⟨by decide, by decide⟩ rfl (Nat.le_of_ble_eq_true rfl) g452 rfl (fun h460 W461 A462 => ?_)
    rw [nar_char n225 n226] at A462
    have A463 : Arv Z h460 b448 kc450 .char (4 : Int32) [(.int c217), (.int c224), (.int (0 : Int32)), (.int (0 : Int32))] (.int 0) := A462
    refine Wlk.iload (pc' := 133) (v := (4 : Int32)) at_131 rfl rfl ?_
    refine Wlk.iconst (pc' := 134) (v := (2 : Int32)) at_133 rfl rfl ?_
    refine Wlk.icF (pc' := 137) at_134 (show (2 : Int32) < (4 : Int32) from by decide) rfl ?_
    refine Wlk.aload (pc' := 139) (v := (.ref b448)) at_137 rfl rfl rfl ?_
    refine Wlk.iconst (pc' := 140) (v := (2 : Int32)) at_139 rfl rfl ?_
    refine Wlk.iload (pc' := 142) (v := c231) at_140 rfl rfl ?_
    refine Wlk.castore (pc' := 143) (i := 2) at_142 A463 ⟨by decide, by decide⟩ rfl (Nat.le_of_ble_eq_true rfl) g452 rfl (fun h464 W465 A466 => ?_)
    rw [nar_char n232 n233] at A466
    have A467 : Arv Z h464 b448 kc450 .char (4 : Int32) [(.int c217), (.int c224), (.int c231), (.int (0 : Int32))] (.int 0) := A466
    refine Wlk.iload (pc' := 145) (v := (4 : Int32)) at_143 rfl rfl ?_
    refine Wlk.iconst (pc' := 146) (v := (3 : Int32)) at_145 rfl rfl ?_
    refine Wlk.icF (pc' := 149) at_146 (show (3 : Int32) < (4 : Int32) from by decide) rfl ?_
    refine Wlk.aload (pc' := 151) (v := (.ref b448)) at_149 rfl rfl rfl ?_
    refine Wlk.iconst (pc' := 152) (v := (3 : Int32)) at_151 rfl rfl ?_
    refine Wlk.iload (pc' := 154) (v := c238) at_152 rfl rfl ?_
    refine Wlk.castore (pc' := 155) (i := 3) at_154 A467 ⟨by decide, by decide⟩ rfl (Nat.le_of_ble_eq_true rfl) g452 rfl (fun h468 W469 A470 => ?_)
    rw [nar_char n239 n240] at A470
    have A471 : Arv Z h468 b448 kc450 .char (4 : Int32) [(.int c217), (.int c224), (.int c231), (.int c238)] (.int 0) := A470
    refine Wlk.iload (pc' := 157) (v := (4 : Int32)) at_155 rfl rfl ?_
    refine Wlk.iconst (pc' := 158) (v := (4 : Int32)) at_157 rfl rfl ?_
    refine Wlk.icT (pc' := 167) at_158 (by decide) (by decide) (show ¬ ((4 : Int32) < (4 : Int32)) from by decide) ?_
    refine Wlk.iload (pc' := 169) (v := (4 : Int32)) at_167 rfl rfl ?_
    refine Wlk.iconst (pc' := 170) (v := (5 : Int32)) at_169 rfl rfl ?_
    refine Wlk.icT (pc' := 179) at_170 (by decide) (by decide) (show ¬ ((5 : Int32) < (4 : Int32)) from by decide) ?_
    refine Wlk.iload (pc' := 181) (v := (4 : Int32)) at_179 rfl rfl ?_
    refine Wlk.bipush (pc' := 183) (v := (6 : Int32)) at_181 (by decide) rfl ?_
    refine Wlk.icT (pc' := 193) at_183 (by decide) (by decide) (show ¬ ((6 : Int32) < (4 : Int32)) from by decide) ?_
    refine Wlk.iload (pc' := 195) (v := (4 : Int32)) at_193 rfl rfl ?_
    refine Wlk.bipush (pc' := 197) (v := (7 : Int32)) at_195 (by decide) rfl ?_
    refine Wlk.icT (pc' := 207) at_197 (by decide) (by decide) (show ¬ ((7 : Int32) < (4 : Int32)) from by decide) ?_
    refine Wlk.iload (pc' := 209) (v := (4 : Int32)) at_207 rfl rfl ?_
    refine Wlk.bipush (pc' := 211) (v := (8 : Int32)) at_209 (by decide) rfl ?_
    refine Wlk.icT (pc' := 221) at_211 (by decide) (by decide) (show ¬ ((8 : Int32) < (4 : Int32)) from by decide) ?_
    refine Wlk.iload (pc' := 223) (v := (4 : Int32)) at_221 rfl rfl ?_
    refine Wlk.bipush (pc' := 225) (v := (9 : Int32)) at_223 (by decide) rfl ?_
    refine Wlk.icT (pc' := 235) at_225 (by decide) (by decide) (show ¬ ((9 : Int32) < (4 : Int32)) from by decide) ?_
    refine Wlk.iload (pc' := 237) (v := (4 : Int32)) at_235 rfl rfl ?_
    refine Wlk.bipush (pc' := 239) (v := (9 : Int32)) at_237 (by decide) rfl ?_
    refine Wlk.icT (pc' := 309) at_239 (by decide) (by decide) (show ¬ ((4 : Int32) = (9 : Int32)) from by decide) ?_
    refine Wlk.iconst (pc' := 310) (v := (0 : Int32)) at_309 rfl rfl ?_
    refine Wlk.istore (pc' := 312) (Ls' := #[.val (.long p1), .second, .val (.long p2), .second, .val (.long p3), .second, .val (.int p4), .val (.int (4 : Int32)), .val (.int c217), .val (.int c224), .val (.int c231), .val (.int c238), .val (.int c245), .val (.int c252), .val (.int c259), .val (.int c266), .val (.int c273), .val (.int c280), .val (.ref b448), .val (.int (0 : Int32)), .unset]) at_310 rfl rfl rfl ?_
    refine Wlk.iload (pc' := 314) (v := (0 : Int32)) at_312 rfl rfl ?_
    refine Wlk.ifF (pc' := 317) at_314 (show (0 : Int32) = (0 : Int32) from by decide) rfl ?_
    refine Wlk.iconst (pc' := 318) (v := (1 : Int32)) at_317 rfl rfl ?_
    refine Wlk.goto (pc' := 322) at_318 (by decide) (by decide) ?_
    refine Wlk.istore (pc' := 324) (Ls' := #[.val (.long p1), .second, .val (.long p2), .second, .val (.long p3), .second, .val (.int p4), .val (.int (4 : Int32)), .val (.int c217), .val (.int c224), .val (.int c231), .val (.int c238), .val (.int c245), .val (.int c252), .val (.int c259), .val (.int c266), .val (.int c273), .val (.int c280), .val (.ref b448), .val (.int (0 : Int32)), .val (.int (1 : Int32))]) at_322 rfl rfl rfl ?_
    refine Wlk.newO (pc' := 327) (C := "java/lang/String") at_324 (hw _ (List.mem_of_getElem? (i := 7) rfl)) (hw _ (List.mem_of_getElem? (i := 8) rfl)) (hw _ (List.mem_of_getElem? (i := 9) rfl)) (by decide) (by decide) rfl (fun b472 h473 le474 g475 E476 A477 D478 => ?_)
    have F479 : Fld Z h473 b472 "java/lang/String" "coder" "B" (.int (0 : Int32)) := D478 (Or.inr (hw _ (List.mem_of_getElem? (i := 33) rfl))) (ty := .byte) (by decide)
    have F480 : Fld Z h473 b472 "java/lang/String" "value" "[B" .null := D478 (Or.inr (hw _ (List.mem_of_getElem? (i := 35) rfl))) (ty := (.array .byte)) (by decide)
    refine Wlk.dup (pc' := 328) at_327 rfl rfl ?_
    refine Wlk.aload (pc' := 330) (v := (.ref b448)) at_328 rfl rfl rfl ?_
    have hR481 : ∀ c ∈ [c217, c224, c231, c238], ¬ c < 0 ∧ ¬ (65535 : Int32) < c := by
      intro c hc
      simp only [List.mem_cons, List.not_mem_nil, or_false] at hc
      rcases hc with hc | hc | hc | hc
      · rw [hc]; exact ⟨n218, n219⟩
      · rw [hc]; exact ⟨n225, n226⟩
      · rw [hc]; exact ⟨n232, n233⟩
      · rw [hc]; exact ⟨n239, n240⟩
    have c482 := (A471.ext E476)
    refine Wlk.callC (pc' := 333) (a := b472) (z := (⟨"java/lang/String", "<init>", "([C)V"⟩ : MethodName)) (argsL := [(.ref b448)]) (st := [(.ref b472)]) (W := 1) at_330 (hw _ (List.mem_of_getElem? (i := 10) rfl)) (hw _ (List.mem_of_getElem? (i := 11) rfl)) (hw _ (List.mem_of_getElem? (i := 9) rfl)) (hw _ (List.mem_of_getElem? (i := 12) rfl)) (by decide) rfl pd_11 rfl (st_ini1A hw b472 b448 .null (.int (0 : Int32)) kc450 [c217, c224, c231, c238] (.int 0) zc h473 q0_Sta q1_Sta q2_Sta A477 F480 F479 g475 c482 O2 P3 (by first | exact hn | exact Nat.le_of_ble_eq_true rfl) (by first | exact hp | exact Nat.le_of_ble_eq_true rfl) hR481) (by decide) rfl (by decide) (by decide) (by decide) rfl rfl (fun v483 h484 J485 q486 => ?_)
    obtain ⟨t487, rfl, le488, g489, K490, n491⟩ := q486
    show Wlk _ _ _ _ _ _ _ _ _ h484 4 38 333 #[.val (.long p1), .second, .val (.long p2), .second, .val (.long p3), .second, .val (.int p4), .val (.int (4 : Int32)), .val (.int c217), .val (.int c224), .val (.int c231), .val (.int c238), .val (.int c245), .val (.int c252), .val (.int c259), .val (.int c266), .val (.int c273), .val (.int c280), .val (.ref b448), .val (.int (0 : Int32)), .val (.int (1 : Int32))] [(.ref b472)]
    refine Wlk.callSw (pc' := 336) (z := (⟨"com/example/wenyi/wenyi/request/YonyouSignature", "isSigned", "(Ljava/lang/String;)Z"⟩ : MethodName)) (argsL := [(.ref b472)]) (st := []) (W := 0) at_333 (hw _ (List.mem_of_getElem? (i := 36) rfl)) (hw _ (List.mem_of_getElem? (i := 37) rfl)) (hw _ (List.mem_of_getElem? (i := 38) rfl)) (hw _ (List.mem_of_getElem? (i := 39) rfl)) (by decide) pd_12 rfl (rm_sgn hw b472 t487 [c217, c224, c231, c238] zc [] [] h484 n491 O2 P3 wS hcw hh_25 (by decide) (fun x hx => (hR481 x hx).1) (Nat.le_of_ble_eq_true rfl)) (by decide) rfl (by decide) (by decide) (by decide) rfl rfl (fun v492 h493 J494 q495 => ?_)
    obtain ⟨c496, rfl, K497, rfl⟩ := q495
    show Wlk _ _ _ _ _ _ _ _ _ h493 6 78 336 #[.val (.long p1), .second, .val (.long p2), .second, .val (.long p3), .second, .val (.int p4), .val (.int (4 : Int32)), .val (.int c217), .val (.int c224), .val (.int c231), .val (.int c238), .val (.int c245), .val (.int c252), .val (.int c259), .val (.int c266), .val (.int c273), .val (.int c280), .val (.ref b448), .val (.int (0 : Int32)), .val (.int (1 : Int32))] [(.int (if [c217, c224, c231, c238] = sigL then (0 : Int32) else 1))]
    refine Wlk.iload (pc' := 338) (v := (1 : Int32)) at_336 rfl rfl ?_
    refine Wlk.icF (pc' := 341) at_338 (show (if [c217, c224, c231, c238] = sigL then (0 : Int32) else 1) = (1 : Int32) from (if_neg (fun (q : [c217, c224, c231, c238] = sigL) => absurd (congrArg List.length q) (show ¬ ((4 : Nat) = 9) by decide)))) rfl ?_
    refine Wlk.iconst (pc' := 342) (v := (1 : Int32)) at_341 rfl rfl ?_
    refine Wlk.goto (pc' := 346) at_342 (by decide) (by decide) ?_
    refine Wlk.ireturnN (t := .boolean) at_346 rfl (by simp) (by decide) (by decide) ?_
    exact rfl
  · skip
    refine Wlk.iload (pc' := 104) (v := (5 : Int32)) at_102 rfl rfl ?_
    refine Wlk.newP (pc' := 106) (ty := .char) (cap := 5) at_104 rfl (hw _ (List.mem_of_getElem? (i := 6) rfl)) (by decide) (by decide) (by decide) (by decide) (by decide) rfl (fun b498 h499 kc500 le501 g502 E503 A504 => ?_)
    have A505 : Arv Z h499 b498 kc500 .char (5 : Int32) [.int 0, .int 0, .int 0, .int 0, .int 0] (.int 0) := A504.pad (pad_rep [] (.int 0) 5)
    refine Wlk.astore (pc' := 108) (Ls' := #[.val (.long p1), .second, .val (.long p2), .second, .val (.long p3), .second, .val (.int p4), .val (.int (5 : Int32)), .val (.int c217), .val (.int c224), .val (.int c231), .val (.int c238), .val (.int c245), .val (.int c252), .val (.int c259), .val (.int c266), .val (.int c273), .val (.int c280), .val (.ref b498), .unset, .unset]) at_106 rfl rfl rfl rfl ?_
    refine Wlk.iload (pc' := 110) (v := (5 : Int32)) at_108 rfl rfl ?_
    refine Wlk.ifF (pc' := 113) at_110 (show (0 : Int32) < (5 : Int32) from by decide) rfl ?_
    refine Wlk.aload (pc' := 115) (v := (.ref b498)) at_113 rfl rfl rfl ?_
    refine Wlk.iconst (pc' := 116) (v := (0 : Int32)) at_115 rfl rfl ?_
    refine Wlk.iload (pc' := 118) (v := c217) at_116 rfl rfl ?_
    refine Wlk.castore (pc' := 119) (i := 0) at_118 A505 ⟨by decide, by decide⟩ rfl (Nat.le_of_ble_eq_true rfl) g502 rfl (fun h506 W507 A508 => ?_)
    rw [nar_char n218 n219] at A508
    have A509 : Arv Z h506 b498 kc500 .char (5 : Int32) [(.int c217), (.int (0 : Int32)), (.int (0 : Int32)), (.int (0 : Int32)), (.int (0 : Int32))] (.int 0) := A508
    refine Wlk.iload (pc' := 121) (v := (5 : Int32)) at_119 rfl rfl ?_
    refine Wlk.iconst (pc' := 122) (v := (1 : Int32)) at_121 rfl rfl ?_
    refine Wlk.icF (pc' := 125) at_122 (show (1 : Int32) < (5 : Int32) from by decide) rfl ?_
    refine Wlk.aload (pc' := 127) (v := (.ref b498)) at_125 rfl rfl rfl ?_
    refine Wlk.iconst (pc' := 128) (v := (1 : Int32)) at_127 rfl rfl ?_
    refine Wlk.iload (pc' := 130) (v := c224) at_128 rfl rfl ?_
    refine Wlk.castore (pc' := 131) (i := 1) at_130 A509 ⟨by decide, by decide⟩ rfl (Nat.le_of_ble_eq_true rfl) g502 rfl (fun h510 W511 A512 => ?_)
    rw [nar_char n225 n226] at A512
    have A513 : Arv Z h510 b498 kc500 .char (5 : Int32) [(.int c217), (.int c224), (.int (0 : Int32)), (.int (0 : Int32)), (.int (0 : Int32))] (.int 0) := A512
    refine Wlk.iload (pc' := 133) (v := (5 : Int32)) at_131 rfl rfl ?_
    refine Wlk.iconst (pc' := 134) (v := (2 : Int32)) at_133 rfl rfl ?_
    refine Wlk.icF (pc' := 137) at_134 (show (2 : Int32) < (5 : Int32) from by decide) rfl ?_
    refine Wlk.aload (pc' := 139) (v := (.ref b498)) at_137 rfl rfl rfl ?_
    refine Wlk.iconst (pc' := 140) (v := (2 : Int32)) at_139 rfl rfl ?_
    refine Wlk.iload (pc' := 142) (v := c231) at_140 rfl rfl ?_
    refine Wlk.castore (pc' := 143) (i := 2) at_142 A513 ⟨by decide, by decide⟩ rfl (Nat.le_of_ble_eq_true rfl) g502 rfl (fun h514 W515 A516 => ?_)
    rw [nar_char n232 n233] at A516
    have A517 : Arv Z h514 b498 kc500 .char (5 : Int32) [(.int c217), (.int c224), (.int c231), (.int (0 : Int32)), (.int (0 : Int32))] (.int 0) := A516
    refine Wlk.iload (pc' := 145) (v := (5 : Int32)) at_143 rfl rfl ?_
    refine Wlk.iconst (pc' := 146) (v := (3 : Int32)) at_145 rfl rfl ?_
    refine Wlk.icF (pc' := 149) at_146 (show (3 : Int32) < (5 : Int32) from by decide) rfl ?_
    refine Wlk.aload (pc' := 151) (v := (.ref b498)) at_149 rfl rfl rfl ?_
    refine Wlk.iconst (pc' := 152) (v := (3 : Int32)) at_151 rfl rfl ?_
    refine Wlk.iload (pc' := 154) (v := c238) at_152 rfl rfl ?_
    refine Wlk.castore (pc' := 155) (i := 3) at_154 A517 ⟨by decide, by decide⟩ rfl (Nat.le_of_ble_eq_true rfl) g502 rfl (fun h518 W519 A520 => ?_)
    rw [nar_char n239 n240] at A520
    have A521 : Arv Z h518 b498 kc500 .char (5 : Int32) [(.int c217), (.int c224), (.int c231), (.int c238), (.int (0 : Int32))] (.int 0) := A520
    refine Wlk.iload (pc' := 157) (v := (5 : Int32)) at_155 rfl rfl ?_
    refine Wlk.iconst (pc' := 158) (v := (4 : Int32)) at_157 rfl rfl ?_
    refine Wlk.icF (pc' := 161) at_158 (show (4 : Int32) < (5 : Int32) from by decide) rfl ?_
    refine Wlk.aload (pc' := 163) (v := (.ref b498)) at_161 rfl rfl rfl ?_
    refine Wlk.iconst (pc' := 164) (v := (4 : Int32)) at_163 rfl rfl ?_
    refine Wlk.iload (pc' := 166) (v := c245) at_164 rfl rfl ?_
    refine Wlk.castore (pc' := 167) (i := 4) at_166 A521 ⟨by decide, by decide⟩ rfl (Nat.le_of_ble_eq_true rfl) g502 rfl (fun h522 W523 A524 => ?_)
    rw [nar_char n246 n247] at A524
    have A525 : Arv Z h522 b498 kc500 .char (5 : Int32) [(.int c217), (.int c224), (.int c231), (.int c238), (.int c245)] (.int 0) := A524
    refine Wlk.iload (pc' := 169) (v := (5 : Int32)) at_167 rfl rfl ?_
    refine Wlk.iconst (pc' := 170) (v := (5 : Int32)) at_169 rfl rfl ?_
    refine Wlk.icT (pc' := 179) at_170 (by decide) (by decide) (show ¬ ((5 : Int32) < (5 : Int32)) from by decide) ?_
    refine Wlk.iload (pc' := 181) (v := (5 : Int32)) at_179 rfl rfl ?_
    refine Wlk.bipush (pc' := 183) (v := (6 : Int32)) at_181 (by decide) rfl ?_
    refine Wlk.icT (pc' := 193) at_183 (by decide) (by decide) (show ¬ ((6 : Int32) < (5 : Int32)) from by decide) ?_
    refine Wlk.iload (pc' := 195) (v := (5 : Int32)) at_193 rfl rfl ?_
    refine Wlk.bipush (pc' := 197) (v := (7 : Int32)) at_195 (by decide) rfl ?_
    refine Wlk.icT (pc' := 207) at_197 (by decide) (by decide) (show ¬ ((7 : Int32) < (5 : Int32)) from by decide) ?_
    refine Wlk.iload (pc' := 209) (v := (5 : Int32)) at_207 rfl rfl ?_
    refine Wlk.bipush (pc' := 211) (v := (8 : Int32)) at_209 (by decide) rfl ?_
    refine Wlk.icT (pc' := 221) at_211 (by decide) (by decide) (show ¬ ((8 : Int32) < (5 : Int32)) from by decide) ?_
    refine Wlk.iload (pc' := 223) (v := (5 : Int32)) at_221 rfl rfl ?_
    refine Wlk.bipush (pc' := 225) (v := (9 : Int32)) at_223 (by decide) rfl ?_
    refine Wlk.icT (pc' := 235) at_225 (by decide) (by decide) (show ¬ ((9 : Int32) < (5 : Int32)) from by decide) ?_
    refine Wlk.iload (pc' := 237) (v := (5 : Int32)) at_235 rfl rfl ?_
    refine Wlk.bipush (pc' := 239) (v := (9 : Int32)) at_237 (by decide) rfl ?_
    refine Wlk.icT (pc' := 309) at_239 (by decide) (by decide) (show ¬ ((5 : Int32) = (9 : Int32)) from by decide) ?_
    refine Wlk.iconst (pc' := 310) (v := (0 : Int32)) at_309 rfl rfl ?_
    refine Wlk.istore (pc' := 312) (Ls' := #[.val (.long p1), .second, .val (.long p2), .second, .val (.long p3), .second, .val (.int p4), .val (.int (5 : Int32)), .val (.int c217), .val (.int c224), .val (.int c231), .val (.int c238), .val (.int c245), .val (.int c252), .val (.int c259), .val (.int c266), .val (.int c273), .val (.int c280), .val (.ref b498), .val (.int (0 : Int32)), .unset]) at_310 rfl rfl rfl ?_
    refine Wlk.iload (pc' := 314) (v := (0 : Int32)) at_312 rfl rfl ?_
    refine Wlk.ifF (pc' := 317) at_314 (show (0 : Int32) = (0 : Int32) from by decide) rfl ?_
    refine Wlk.iconst (pc' := 318) (v := (1 : Int32)) at_317 rfl rfl ?_
    refine Wlk.goto (pc' := 322) at_318 (by decide) (by decide) ?_
    refine Wlk.istore (pc' := 324) (Ls' := #[.val (.long p1), .second, .val (.long p2), .second, .val (.long p3), .second, .val (.int p4), .val (.int (5 : Int32)), .val (.int c217), .val (.int c224), .val (.int c231), .val (.int c238), .val (.int c245), .val (.int c252), .val (.int c259), .val (.int c266), .val (.int c273), .val (.int c280), .val (.ref b498), .val (.int (0 : Int32)), .val (.int (1 : Int32))]) at_322 rfl rfl rfl ?_
    refine Wlk.newO (pc' := 327) (C := "java/lang/String") at_324 (hw _ (List.mem_of_getElem? (i := 7) rfl)) (hw _ (List.mem_of_getElem? (i := 8) rfl)) (hw _ (List.mem_of_getElem? (i := 9) rfl)) (by decide) (by decide) rfl (fun b526 h527 le528 g529 E530 A531 D532 => ?_)
    have F533 : Fld Z h527 b526 "java/lang/String" "coder" "B" (.int (0 : Int32)) := D532 (Or.inr (hw _ (List.mem_of_getElem? (i := 33) rfl))) (ty := .byte) (by decide)
    have F534 : Fld Z h527 b526 "java/lang/String" "value" "[B" .null := D532 (Or.inr (hw _ (List.mem_of_getElem? (i := 35) rfl))) (ty := (.array .byte)) (by decide)
    refine Wlk.dup (pc' := 328) at_327 rfl rfl ?_
    refine Wlk.aload (pc' := 330) (v := (.ref b498)) at_328 rfl rfl rfl ?_
    have hR535 : ∀ c ∈ [c217, c224, c231, c238, c245], ¬ c < 0 ∧ ¬ (65535 : Int32) < c := by
      intro c hc
      simp only [List.mem_cons, List.not_mem_nil, or_false] at hc
      rcases hc with hc | hc | hc | hc | hc
      · rw [hc]; exact ⟨n218, n219⟩
      · rw [hc]; exact ⟨n225, n226⟩
      · rw [hc]; exact ⟨n232, n233⟩
      · rw [hc]; exact ⟨n239, n240⟩
      · rw [hc]; exact ⟨n246, n247⟩
    have c536 := (A525.ext E530)
    refine Wlk.callC (pc' := 333) (a := b526) (z := (⟨"java/lang/String", "<init>", "([C)V"⟩ : MethodName)) (argsL := [(.ref b498)]) (st := [(.ref b526)]) (W := 1) at_330 (hw _ (List.mem_of_getElem? (i := 10) rfl)) (hw _ (List.mem_of_getElem? (i := 11) rfl)) (hw _ (List.mem_of_getElem? (i := 9) rfl)) (hw _ (List.mem_of_getElem? (i := 12) rfl)) (by decide) rfl pd_11 rfl (st_ini1A hw b526 b498 .null (.int (0 : Int32)) kc500 [c217, c224, c231, c238, c245] (.int 0) zc h527 q0_Sta q1_Sta q2_Sta A531 F534 F533 g529 c536 O2 P3 (by first | exact hn | exact Nat.le_of_ble_eq_true rfl) (by first | exact hp | exact Nat.le_of_ble_eq_true rfl) hR535) (by decide) rfl (by decide) (by decide) (by decide) rfl rfl (fun v537 h538 J539 q540 => ?_)
    obtain ⟨t541, rfl, le542, g543, K544, n545⟩ := q540
    show Wlk _ _ _ _ _ _ _ _ _ h538 4 39 333 #[.val (.long p1), .second, .val (.long p2), .second, .val (.long p3), .second, .val (.int p4), .val (.int (5 : Int32)), .val (.int c217), .val (.int c224), .val (.int c231), .val (.int c238), .val (.int c245), .val (.int c252), .val (.int c259), .val (.int c266), .val (.int c273), .val (.int c280), .val (.ref b498), .val (.int (0 : Int32)), .val (.int (1 : Int32))] [(.ref b526)]
    refine Wlk.callSw (pc' := 336) (z := (⟨"com/example/wenyi/wenyi/request/YonyouSignature", "isSigned", "(Ljava/lang/String;)Z"⟩ : MethodName)) (argsL := [(.ref b526)]) (st := []) (W := 0) at_333 (hw _ (List.mem_of_getElem? (i := 36) rfl)) (hw _ (List.mem_of_getElem? (i := 37) rfl)) (hw _ (List.mem_of_getElem? (i := 38) rfl)) (hw _ (List.mem_of_getElem? (i := 39) rfl)) (by decide) pd_12 rfl (rm_sgn hw b526 t541 [c217, c224, c231, c238, c245] zc [] [] h538 n545 O2 P3 wS hcw hh_25 (by decide) (fun x hx => (hR535 x hx).1) (Nat.le_of_ble_eq_true rfl)) (by decide) rfl (by decide) (by decide) (by decide) rfl rfl (fun v546 h547 J548 q549 => ?_)
    obtain ⟨c550, rfl, K551, rfl⟩ := q549
    show Wlk _ _ _ _ _ _ _ _ _ h547 6 79 336 #[.val (.long p1), .second, .val (.long p2), .second, .val (.long p3), .second, .val (.int p4), .val (.int (5 : Int32)), .val (.int c217), .val (.int c224), .val (.int c231), .val (.int c238), .val (.int c245), .val (.int c252), .val (.int c259), .val (.int c266), .val (.int c273), .val (.int c280), .val (.ref b498), .val (.int (0 : Int32)), .val (.int (1 : Int32))] [(.int (if [c217, c224, c231, c238, c245] = sigL then (0 : Int32) else 1))]
    refine Wlk.iload (pc' := 338) (v := (1 : Int32)) at_336 rfl rfl ?_
    refine Wlk.icF (pc' := 341) at_338 (show (if [c217, c224, c231, c238, c245] = sigL then (0 : Int32) else 1) = (1 : Int32) from (if_neg (fun (q : [c217, c224, c231, c238, c245] = sigL) => absurd (congrArg List.length q) (show ¬ ((5 : Nat) = 9) by decide)))) rfl ?_
    refine Wlk.iconst (pc' := 342) (v := (1 : Int32)) at_341 rfl rfl ?_
    refine Wlk.goto (pc' := 346) at_342 (by decide) (by decide) ?_
    refine Wlk.ireturnN (t := .boolean) at_346 rfl (by simp) (by decide) (by decide) ?_
    exact rfl
  · skip
    refine Wlk.iload (pc' := 104) (v := (6 : Int32)) at_102 rfl rfl ?_
    refine Wlk.newP (pc' := 106) (ty := .char) (cap := 6) at_104 rfl (hw _ (List.mem_of_getElem? (i := 6) rfl)) (by decide) (by decide) (by decide) (by decide) (by decide) rfl (fun b552 h553 kc554 le555 g556 E557 A558 => ?_)
    have A559 : Arv Z h553 b552 kc554 .char (6 : Int32) [.int 0, .int 0, .int 0, .int 0, .int 0, .int 0] (.int 0) := A558.pad (pad_rep [] (.int 0) 6)
    refine Wlk.astore (pc' := 108) (Ls' := #[.val (.long p1), .second, .val (.long p2), .second, .val (.long p3), .second, .val (.int p4), .val (.int (6 : Int32)), .val (.int c217), .val (.int c224), .val (.int c231), .val (.int c238), .val (.int c245), .val (.int c252), .val (.int c259), .val (.int c266), .val (.int c273), .val (.int c280), .val (.ref b552), .unset, .unset]) at_106 rfl rfl rfl rfl ?_
    refine Wlk.iload (pc' := 110) (v := (6 : Int32)) at_108 rfl rfl ?_
    refine Wlk.ifF (pc' := 113) at_110 (show (0 : Int32) < (6 : Int32) from by decide) rfl ?_
    refine Wlk.aload (pc' := 115) (v := (.ref b552)) at_113 rfl rfl rfl ?_
    refine Wlk.iconst (pc' := 116) (v := (0 : Int32)) at_115 rfl rfl ?_
    refine Wlk.iload (pc' := 118) (v := c217) at_116 rfl rfl ?_
    refine Wlk.castore (pc' := 119) (i := 0) at_118 A559 ⟨by decide, by decide⟩ rfl (Nat.le_of_ble_eq_true rfl) g556 rfl (fun h560 W561 A562 => ?_)
    rw [nar_char n218 n219] at A562
    have A563 : Arv Z h560 b552 kc554 .char (6 : Int32) [(.int c217), (.int (0 : Int32)), (.int (0 : Int32)), (.int (0 : Int32)), (.int (0 : Int32)), (.int (0 : Int32))] (.int 0) := A562
    refine Wlk.iload (pc' := 121) (v := (6 : Int32)) at_119 rfl rfl ?_
    refine Wlk.iconst (pc' := 122) (v := (1 : Int32)) at_121 rfl rfl ?_
    refine Wlk.icF (pc' := 125) at_122 (show (1 : Int32) < (6 : Int32) from by decide) rfl ?_
    refine Wlk.aload (pc' := 127) (v := (.ref b552)) at_125 rfl rfl rfl ?_
    refine Wlk.iconst (pc' := 128) (v := (1 : Int32)) at_127 rfl rfl ?_
    refine Wlk.iload (pc' := 130) (v := c224) at_128 rfl rfl ?_
    refine Wlk.castore (pc' := 131) (i := 1) at_130 A563 ⟨by decide, by decide⟩ rfl (Nat.le_of_ble_eq_true rfl) g556 rfl (fun h564 W565 A566 => ?_)
    rw [nar_char n225 n226] at A566
    have A567 : Arv Z h564 b552 kc554 .char (6 : Int32) [(.int c217), (.int c224), (.int (0 : Int32)), (.int (0 : Int32)), (.int (0 : Int32)), (.int (0 : Int32))] (.int 0) := A566
    refine Wlk.iload (pc' := 133) (v := (6 : Int32)) at_131 rfl rfl ?_
    refine Wlk.iconst (pc' := 134) (v := (2 : Int32)) at_133 rfl rfl ?_
    refine Wlk.icF (pc' := 137) at_134 (show (2 : Int32) < (6 : Int32) from by decide) rfl ?_
    refine Wlk.aload (pc' := 139) (v := (.ref b552)) at_137 rfl rfl rfl ?_
    refine Wlk.iconst (pc' := 140) (v := (2 : Int32)) at_139 rfl rfl ?_
    refine Wlk.iload (pc' := 142) (v := c231) at_140 rfl rfl ?_
    refine Wlk.castore (pc' := 143) (i := 2) at_142 A567 ⟨by decide, by decide⟩ rfl (Nat.le_of_ble_eq_true rfl) g556 rfl (fun h568 W569 A570 => ?_)
    rw [nar_char n232 n233] at A570
    have A571 : Arv Z h568 b552 kc554 .char (6 : Int32) [(.int c217), (.int c224), (.int c231), (.int (0 : Int32)), (.int (0 : Int32)), (.int (0 : Int32))] (.int 0) := A570
    refine Wlk.iload (pc' := 145) (v := (6 : Int32)) at_143 rfl rfl ?_
    refine Wlk.iconst (pc' := 146) (v := (3 : Int32)) at_145 rfl rfl ?_
    refine Wlk.icF (pc' := 149) at_146 (show (3 : Int32) < (6 : Int32) from by decide) rfl ?_
    refine Wlk.aload (pc' := 151) (v := (.ref b552)) at_149 rfl rfl rfl ?_
    refine Wlk.iconst (pc' := 152) (v := (3 : Int32)) at_151 rfl rfl ?_
    refine Wlk.iload (pc' := 154) (v := c238) at_152 rfl rfl ?_
    refine Wlk.castore (pc' := 155) (i := 3) at_154 A571 ⟨by decide, by decide⟩ rfl (Nat.le_of_ble_eq_true rfl) g556 rfl (fun h572 W573 A574 => ?_)
    rw [nar_char n239 n240] at A574
    have A575 : Arv Z h572 b552 kc554 .char (6 : Int32) [(.int c217), (.int c224), (.int c231), (.int c238), (.int (0 : Int32)), (.int (0 : Int32))] (.int 0) := A574
    refine Wlk.iload (pc' := 157) (v := (6 : Int32)) at_155 rfl rfl ?_
    refine Wlk.iconst (pc' := 158) (v := (4 : Int32)) at_157 rfl rfl ?_
    refine Wlk.icF (pc' := 161) at_158 (show (4 : Int32) < (6 : Int32) from by decide) rfl ?_
    refine Wlk.aload (pc' := 163) (v := (.ref b552)) at_161 rfl rfl rfl ?_
    refine Wlk.iconst (pc' := 164) (v := (4 : Int32)) at_163 rfl rfl ?_
    refine Wlk.iload (pc' := 166) (v := c245) at_164 rfl rfl ?_
    refine Wlk.castore (pc' := 167) (i := 4) at_166 A575 ⟨by decide, by decide⟩ rfl (Nat.le_of_ble_eq_true rfl) g556 rfl (fun h576 W577 A578 => ?_)
    rw [nar_char n246 n247] at A578
    have A579 : Arv Z h576 b552 kc554 .char (6 : Int32) [(.int c217), (.int c224), (.int c231), (.int c238), (.int c245), (.int (0 : Int32))] (.int 0) := A578
    refine Wlk.iload (pc' := 169) (v := (6 : Int32)) at_167 rfl rfl ?_
    refine Wlk.iconst (pc' := 170) (v := (5 : Int32)) at_169 rfl rfl ?_
    refine Wlk.icF (pc' := 173) at_170 (show (5 : Int32) < (6 : Int32) from by decide) rfl ?_
    refine Wlk.aload (pc' := 175) (v := (.ref b552)) at_173 rfl rfl rfl ?_
    refine Wlk.iconst (pc' := 176) (v := (5 : Int32)) at_175 rfl rfl ?_
    refine Wlk.iload (pc' := 178) (v := c252) at_176 rfl rfl ?_
    refine Wlk.castore (pc' := 179) (i := 5) at_178 A579 ⟨by decide, by decide⟩ rfl (Nat.le_of_ble_eq_true rfl) g556 rfl (fun h580 W581 A582 => ?_)
    rw [nar_char n253 n254] at A582
    have A583 : Arv Z h580 b552 kc554 .char (6 : Int32) [(.int c217), (.int c224), (.int c231), (.int c238), (.int c245), (.int c252)] (.int 0) := A582
    refine Wlk.iload (pc' := 181) (v := (6 : Int32)) at_179 rfl rfl ?_
    refine Wlk.bipush (pc' := 183) (v := (6 : Int32)) at_181 (by decide) rfl ?_
    refine Wlk.icT (pc' := 193) at_183 (by decide) (by decide) (show ¬ ((6 : Int32) < (6 : Int32)) from by decide) ?_
    refine Wlk.iload (pc' := 195) (v := (6 : Int32)) at_193 rfl rfl ?_
    refine Wlk.bipush (pc' := 197) (v := (7 : Int32)) at_195 (by decide) rfl ?_
    refine Wlk.icT (pc' := 207) at_197 (by decide) (by decide) (show ¬ ((7 : Int32) < (6 : Int32)) from by decide) ?_
    refine Wlk.iload (pc' := 209) (v := (6 : Int32)) at_207 rfl rfl ?_
    refine Wlk.bipush (pc' := 211) (v := (8 : Int32)) at_209 (by decide) rfl ?_
    refine Wlk.icT (pc' := 221) at_211 (by decide) (by decide) (show ¬ ((8 : Int32) < (6 : Int32)) from by decide) ?_
    refine Wlk.iload (pc' := 223) (v := (6 : Int32)) at_221 rfl rfl ?_
    refine Wlk.bipush (pc' := 225) (v := (9 : Int32)) at_223 (by decide) rfl ?_
    refine Wlk.icT (pc' := 235) at_225 (by decide) (by decide) (show ¬ ((9 : Int32) < (6 : Int32)) from by decide) ?_
    refine Wlk.iload (pc' := 237) (v := (6 : Int32)) at_235 rfl rfl ?_
    refine Wlk.bipush (pc' := 239) (v := (9 : Int32)) at_237 (by decide) rfl ?_
    refine Wlk.icT (pc' := 309) at_239 (by decide) (by decide) (show ¬ ((6 : Int32) = (9 : Int32)) from by decide) ?_
    refine Wlk.iconst (pc' := 310) (v := (0 : Int32)) at_309 rfl rfl ?_
    refine Wlk.istore (pc' := 312) (Ls' := #[.val (.long p1), .second, .val (.long p2), .second, .val (.long p3), .second, .val (.int p4), .val (.int (6 : Int32)), .val (.int c217), .val (.int c224), .val (.int c231), .val (.int c238), .val (.int c245), .val (.int c252), .val (.int c259), .val (.int c266), .val (.int c273), .val (.int c280), .val (.ref b552), .val (.int (0 : Int32)), .unset]) at_310 rfl rfl rfl ?_
    refine Wlk.iload (pc' := 314) (v := (0 : Int32)) at_312 rfl rfl ?_
    refine Wlk.ifF (pc' := 317) at_314 (show (0 : Int32) = (0 : Int32) from by decide) rfl ?_
    refine Wlk.iconst (pc' := 318) (v := (1 : Int32)) at_317 rfl rfl ?_
    refine Wlk.goto (pc' := 322) at_318 (by decide) (by decide) ?_
    refine Wlk.istore (pc' := 324) (Ls' := #[.val (.long p1), .second, .val (.long p2), .second, .val (.long p3), .second, .val (.int p4), .val (.int (6 : Int32)), .val (.int c217), .val (.int c224), .val (.int c231), .val (.int c238), .val (.int c245), .val (.int c252), .val (.int c259), .val (.int c266), .val (.int c273), .val (.int c280), .val (.ref b552), .val (.int (0 : Int32)), .val (.int (1 : Int32))]) at_322 rfl rfl rfl ?_
    refine Wlk.newO (pc' := 327) (C := "java/lang/String") at_324 (hw _ (List.mem_of_getElem? (i := 7) rfl)) (hw _ (List.mem_of_getElem? (i := 8) rfl)) (hw _ (List.mem_of_getElem? (i := 9) rfl)) (by decide) (by decide) rfl (fun b584 h585 le586 g587 E588 A589 D590 => ?_)
    have F591 : Fld Z h585 b584 "java/lang/String" "coder" "B" (.int (0 : Int32)) := D590 (Or.inr (hw _ (List.mem_of_getElem? (i := 33) rfl))) (ty := .byte) (by decide)
    have F592 : Fld Z h585 b584 "java/lang/String" "value" "[B" .null := D590 (Or.inr (hw _ (List.mem_of_getElem? (i := 35) rfl))) (ty := (.array .byte)) (by decide)
    refine Wlk.dup (pc' := 328) at_327 rfl rfl ?_
    refine Wlk.aload (pc' := 330) (v := (.ref b552)) at_328 rfl rfl rfl ?_
    have hR593 : ∀ c ∈ [c217, c224, c231, c238, c245, c252], ¬ c < 0 ∧ ¬ (65535 : Int32) < c := by
      intro c hc
      simp only [List.mem_cons, List.not_mem_nil, or_false] at hc
      rcases hc with hc | hc | hc | hc | hc | hc
      · rw [hc]; exact ⟨n218, n219⟩
      · rw [hc]; exact ⟨n225, n226⟩
      · rw [hc]; exact ⟨n232, n233⟩
      · rw [hc]; exact ⟨n239, n240⟩
      · rw [hc]; exact ⟨n246, n247⟩
      · rw [hc]; exact ⟨n253, n254⟩
    have c594 := (A583.ext E588)
    refine Wlk.callC (pc' := 333) (a := b584) (z := (⟨"java/lang/String", "<init>", "([C)V"⟩ : MethodName)) (argsL := [(.ref b552)]) (st := [(.ref b584)]) (W := 1) at_330 (hw _ (List.mem_of_getElem? (i := 10) rfl)) (hw _ (List.mem_of_getElem? (i := 11) rfl)) (hw _ (List.mem_of_getElem? (i := 9) rfl)) (hw _ (List.mem_of_getElem? (i := 12) rfl)) (by decide) rfl pd_11 rfl (st_ini1A hw b584 b552 .null (.int (0 : Int32)) kc554 [c217, c224, c231, c238, c245, c252] (.int 0) zc h585 q0_Sta q1_Sta q2_Sta A589 F592 F591 g587 c594 O2 P3 (by first | exact hn | exact Nat.le_of_ble_eq_true rfl) (by first | exact hp | exact Nat.le_of_ble_eq_true rfl) hR593) (by decide) rfl (by decide) (by decide) (by decide) rfl rfl (fun v595 h596 J597 q598 => ?_)
    obtain ⟨t599, rfl, le600, g601, K602, n603⟩ := q598
    show Wlk _ _ _ _ _ _ _ _ _ h596 4 40 333 #[.val (.long p1), .second, .val (.long p2), .second, .val (.long p3), .second, .val (.int p4), .val (.int (6 : Int32)), .val (.int c217), .val (.int c224), .val (.int c231), .val (.int c238), .val (.int c245), .val (.int c252), .val (.int c259), .val (.int c266), .val (.int c273), .val (.int c280), .val (.ref b552), .val (.int (0 : Int32)), .val (.int (1 : Int32))] [(.ref b584)]
    refine Wlk.callSw (pc' := 336) (z := (⟨"com/example/wenyi/wenyi/request/YonyouSignature", "isSigned", "(Ljava/lang/String;)Z"⟩ : MethodName)) (argsL := [(.ref b584)]) (st := []) (W := 0) at_333 (hw _ (List.mem_of_getElem? (i := 36) rfl)) (hw _ (List.mem_of_getElem? (i := 37) rfl)) (hw _ (List.mem_of_getElem? (i := 38) rfl)) (hw _ (List.mem_of_getElem? (i := 39) rfl)) (by decide) pd_12 rfl (rm_sgn hw b584 t599 [c217, c224, c231, c238, c245, c252] zc [] [] h596 n603 O2 P3 wS hcw hh_25 (by decide) (fun x hx => (hR593 x hx).1) (Nat.le_of_ble_eq_true rfl)) (by decide) rfl (by decide) (by decide) (by decide) rfl rfl (fun v604 h605 J606 q607 => ?_)
    obtain ⟨c608, rfl, K609, rfl⟩ := q607
    show Wlk _ _ _ _ _ _ _ _ _ h605 6 80 336 #[.val (.long p1), .second, .val (.long p2), .second, .val (.long p3), .second, .val (.int p4), .val (.int (6 : Int32)), .val (.int c217), .val (.int c224), .val (.int c231), .val (.int c238), .val (.int c245), .val (.int c252), .val (.int c259), .val (.int c266), .val (.int c273), .val (.int c280), .val (.ref b552), .val (.int (0 : Int32)), .val (.int (1 : Int32))] [(.int (if [c217, c224, c231, c238, c245, c252] = sigL then (0 : Int32) else 1))]
    refine Wlk.iload (pc' := 338) (v := (1 : Int32)) at_336 rfl rfl ?_
    refine Wlk.icF (pc' := 341) at_338 (show (if [c217, c224, c231, c238, c245, c252] = sigL then (0 : Int32) else 1) = (1 : Int32) from (if_neg (fun (q : [c217, c224, c231, c238, c245, c252] = sigL) => absurd (congrArg List.length q) (show ¬ ((6 : Nat) = 9) by decide)))) rfl ?_
    refine Wlk.iconst (pc' := 342) (v := (1 : Int32)) at_341 rfl rfl ?_
    refine Wlk.goto (pc' := 346) at_342 (by decide) (by decide) ?_
    refine Wlk.ireturnN (t := .boolean) at_346 rfl (by simp) (by decide) (by decide) ?_
    exact rfl
  · skip
    refine Wlk.iload (pc' := 104) (v := (7 : Int32)) at_102 rfl rfl ?_
    refine Wlk.newP (pc' := 106) (ty := .char) (cap := 7) at_104 rfl (hw _ (List.mem_of_getElem? (i := 6) rfl)) (by decide) (by decide) (by decide) (by decide) (by decide) rfl (fun b610 h611 kc612 le613 g614 E615 A616 => ?_)
    have A617 : Arv Z h611 b610 kc612 .char (7 : Int32) [.int 0, .int 0, .int 0, .int 0, .int 0, .int 0, .int 0] (.int 0) := A616.pad (pad_rep [] (.int 0) 7)
    refine Wlk.astore (pc' := 108) (Ls' := #[.val (.long p1), .second, .val (.long p2), .second, .val (.long p3), .second, .val (.int p4), .val (.int (7 : Int32)), .val (.int c217), .val (.int c224), .val (.int c231), .val (.int c238), .val (.int c245), .val (.int c252), .val (.int c259), .val (.int c266), .val (.int c273), .val (.int c280), .val (.ref b610), .unset, .unset]) at_106 rfl rfl rfl rfl ?_
    refine Wlk.iload (pc' := 110) (v := (7 : Int32)) at_108 rfl rfl ?_
    refine Wlk.ifF (pc' := 113) at_110 (show (0 : Int32) < (7 : Int32) from by decide) rfl ?_
    refine Wlk.aload (pc' := 115) (v := (.ref b610)) at_113 rfl rfl rfl ?_
    refine Wlk.iconst (pc' := 116) (v := (0 : Int32)) at_115 rfl rfl ?_
    refine Wlk.iload (pc' := 118) (v := c217) at_116 rfl rfl ?_
    refine Wlk.castore (pc' := 119) (i := 0) at_118 A617 ⟨by decide, by decide⟩ rfl (Nat.le_of_ble_eq_true rfl) g614 rfl (fun h618 W619 A620 => ?_)
    rw [nar_char n218 n219] at A620
    have A621 : Arv Z h618 b610 kc612 .char (7 : Int32) [(.int c217), (.int (0 : Int32)), (.int (0 : Int32)), (.int (0 : Int32)), (.int (0 : Int32)), (.int (0 : Int32)), (.int (0 : Int32))] (.int 0) := A620
    refine Wlk.iload (pc' := 121) (v := (7 : Int32)) at_119 rfl rfl ?_
    refine Wlk.iconst (pc' := 122) (v := (1 : Int32)) at_121 rfl rfl ?_
    refine Wlk.icF (pc' := 125) at_122 (show (1 : Int32) < (7 : Int32) from by decide) rfl ?_
    refine Wlk.aload (pc' := 127) (v := (.ref b610)) at_125 rfl rfl rfl ?_
    refine Wlk.iconst (pc' := 128) (v := (1 : Int32)) at_127 rfl rfl ?_
    refine Wlk.iload (pc' := 130) (v := c224) at_128 rfl rfl ?_
    refine Wlk.castore (pc' := 131) (i := 1) at_130 A621 ⟨by decide, by decide⟩ rfl (Nat.le_of_ble_eq_true rfl) g614 rfl (fun h622 W623 A624 => ?_)
    rw [nar_char n225 n226] at A624
    have A625 : Arv Z h622 b610 kc612 .char (7 : Int32) [(.int c217), (.int c224), (.int (0 : Int32)), (.int (0 : Int32)), (.int (0 : Int32)), (.int (0 : Int32)), (.int (0 : Int32))] (.int 0) := A624
    refine Wlk.iload (pc' := 133) (v := (7 : Int32)) at_131 rfl rfl ?_
    refine Wlk.iconst (pc' := 134) (v := (2 : Int32)) at_133 rfl rfl ?_
    refine Wlk.icF (pc' := 137) at_134 (show (2 : Int32) < (7 : Int32) from by decide) rfl ?_
    refine Wlk.aload (pc' := 139) (v := (.ref b610)) at_137 rfl rfl rfl ?_
    refine Wlk.iconst (pc' := 140) (v := (2 : Int32)) at_139 rfl rfl ?_
    refine Wlk.iload (pc' := 142) (v := c231) at_140 rfl rfl ?_
    refine Wlk.castore (pc' := 143) (i := 2) at_142 A625 ⟨by decide, by decide⟩ rfl (Nat.le_of_ble_eq_true rfl) g614 rfl (fun h626 W627 A628 => ?_)
    rw [nar_char n232 n233] at A628
    have A629 : Arv Z h626 b610 kc612 .char (7 : Int32) [(.int c217), (.int c224), (.int c231), (.int (0 : Int32)), (.int (0 : Int32)), (.int (0 : Int32)), (.int (0 : Int32))] (.int 0) := A628
    refine Wlk.iload (pc' := 145) (v := (7 : Int32)) at_143 rfl rfl ?_
    refine Wlk.iconst (pc' := 146) (v := (3 : Int32)) at_145 rfl rfl ?_
    refine Wlk.icF (pc' := 149) at_146 (show (3 : Int32) < (7 : Int32) from by decide) rfl ?_
    refine Wlk.aload (pc' := 151) (v := (.ref b610)) at_149 rfl rfl rfl ?_
    refine Wlk.iconst (pc' := 152) (v := (3 : Int32)) at_151 rfl rfl ?_
    refine Wlk.iload (pc' := 154) (v := c238) at_152 rfl rfl ?_
    refine Wlk.castore (pc' := 155) (i := 3) at_154 A629 ⟨by decide, by decide⟩ rfl (Nat.le_of_ble_eq_true rfl) g614 rfl (fun h630 W631 A632 => ?_)
    rw [nar_char n239 n240] at A632
    have A633 : Arv Z h630 b610 kc612 .char (7 : Int32) [(.int c217), (.int c224), (.int c231), (.int c238), (.int (0 : Int32)), (.int (0 : Int32)), (.int (0 : Int32))] (.int 0) := A632
    refine Wlk.iload (pc' := 157) (v := (7 : Int32)) at_155 rfl rfl ?_
    refine Wlk.iconst (pc' := 158) (v := (4 : Int32)) at_157 rfl rfl ?_
    refine Wlk.icF (pc' := 161) at_158 (show (4 : Int32) < (7 : Int32) from by decide) rfl ?_
    refine Wlk.aload (pc' := 163) (v := (.ref b610)) at_161 rfl rfl rfl ?_
    refine Wlk.iconst (pc' := 164) (v := (4 : Int32)) at_163 rfl rfl ?_
    refine Wlk.iload (pc' := 166) (v := c245) at_164 rfl rfl ?_
    refine Wlk.castore (pc' := 167) (i := 4) at_166 A633 ⟨by decide, by decide⟩ rfl (Nat.le_of_ble_eq_true rfl) g614 rfl (fun h634 W635 A636 => ?_)
    rw [nar_char n246 n247] at A636
    have A637 : Arv Z h634 b610 kc612 .char (7 : Int32) [(.int c217), (.int c224), (.int c231), (.int c238), (.int c245), (.int (0 : Int32)), (.int (0 : Int32))] (.int 0) := A636
    refine Wlk.iload (pc' := 169) (v := (7 : Int32)) at_167 rfl rfl ?_
    refine Wlk.iconst (pc' := 170) (v := (5 : Int32)) at_169 rfl rfl ?_
    refine Wlk.icF (pc' := 173) at_170 (show (5 : Int32) < (7 : Int32) from by decide) rfl ?_
    refine Wlk.aload (pc' := 175) (v := (.ref b610)) at_173 rfl rfl rfl ?_
    refine Wlk.iconst (pc' := 176) (v := (5 : Int32)) at_175 rfl rfl ?_
    refine Wlk.iload (pc' := 178) (v := c252) at_176 rfl rfl ?_
    refine Wlk.castore (pc' := 179) (i := 5) at_178 A637 ⟨by decide, by decide⟩ rfl (Nat.le_of_ble_eq_true rfl) g614 rfl (fun h638 W639 A640 => ?_)
    rw [nar_char n253 n254] at A640
    have A641 : Arv Z h638 b610 kc612 .char (7 : Int32) [(.int c217), (.int c224), (.int c231), (.int c238), (.int c245), (.int c252), (.int (0 : Int32))] (.int 0) := A640
    refine Wlk.iload (pc' := 181) (v := (7 : Int32)) at_179 rfl rfl ?_
    refine Wlk.bipush (pc' := 183) (v := (6 : Int32)) at_181 (by decide) rfl ?_
    refine Wlk.icF (pc' := 186) at_183 (show (6 : Int32) < (7 : Int32) from by decide) rfl ?_
    refine Wlk.aload (pc' := 188) (v := (.ref b610)) at_186 rfl rfl rfl ?_
    refine Wlk.bipush (pc' := 190) (v := (6 : Int32)) at_188 (by decide) rfl ?_
    refine Wlk.iload (pc' := 192) (v := c259) at_190 rfl rfl ?_
    refine Wlk.castore (pc' := 193) (i := 6) at_192 A641 ⟨by decide, by decide⟩ rfl (Nat.le_of_ble_eq_true rfl) g614 rfl (fun h642 W643 A644 => ?_)
    rw [nar_char n260 n261] at A644
    have A645 : Arv Z h642 b610 kc612 .char (7 : Int32) [(.int c217), (.int c224), (.int c231), (.int c238), (.int c245), (.int c252), (.int c259)] (.int 0) := A644
    refine Wlk.iload (pc' := 195) (v := (7 : Int32)) at_193 rfl rfl ?_
    refine Wlk.bipush (pc' := 197) (v := (7 : Int32)) at_195 (by decide) rfl ?_
    refine Wlk.icT (pc' := 207) at_197 (by decide) (by decide) (show ¬ ((7 : Int32) < (7 : Int32)) from by decide) ?_
    refine Wlk.iload (pc' := 209) (v := (7 : Int32)) at_207 rfl rfl ?_
    refine Wlk.bipush (pc' := 211) (v := (8 : Int32)) at_209 (by decide) rfl ?_
    refine Wlk.icT (pc' := 221) at_211 (by decide) (by decide) (show ¬ ((8 : Int32) < (7 : Int32)) from by decide) ?_
    refine Wlk.iload (pc' := 223) (v := (7 : Int32)) at_221 rfl rfl ?_
    refine Wlk.bipush (pc' := 225) (v := (9 : Int32)) at_223 (by decide) rfl ?_
    refine Wlk.icT (pc' := 235) at_225 (by decide) (by decide) (show ¬ ((9 : Int32) < (7 : Int32)) from by decide) ?_
    refine Wlk.iload (pc' := 237) (v := (7 : Int32)) at_235 rfl rfl ?_
    refine Wlk.bipush (pc' := 239) (v := (9 : Int32)) at_237 (by decide) rfl ?_
    refine Wlk.icT (pc' := 309) at_239 (by decide) (by decide) (show ¬ ((7 : Int32) = (9 : Int32)) from by decide) ?_
    refine Wlk.iconst (pc' := 310) (v := (0 : Int32)) at_309 rfl rfl ?_
    refine Wlk.istore (pc' := 312) (Ls' := #[.val (.long p1), .second, .val (.long p2), .second, .val (.long p3), .second, .val (.int p4), .val (.int (7 : Int32)), .val (.int c217), .val (.int c224), .val (.int c231), .val (.int c238), .val (.int c245), .val (.int c252), .val (.int c259), .val (.int c266), .val (.int c273), .val (.int c280), .val (.ref b610), .val (.int (0 : Int32)), .unset]) at_310 rfl rfl rfl ?_
    refine Wlk.iload (pc' := 314) (v := (0 : Int32)) at_312 rfl rfl ?_
    refine Wlk.ifF (pc' := 317) at_314 (show (0 : Int32) = (0 : Int32) from by decide) rfl ?_
    refine Wlk.iconst (pc' := 318) (v := (1 : Int32)) at_317 rfl rfl ?_
    refine Wlk.goto (pc' := 322) at_318 (by decide) (by decide) ?_
    refine Wlk.istore (pc' := 324) (Ls' := #[.val (.long p1), .second, .val (.long p2), .second, .val (.long p3), .second, .val (.int p4), .val (.int (7 : Int32)), .val (.int c217), .val (.int c224), .val (.int c231), .val (.int c238), .val (.int c245), .val (.int c252), .val (.int c259), .val (.int c266), .val (.int c273), .val (.int c280), .val (.ref b610), .val (.int (0 : Int32)), .val (.int (1 : Int32))]) at_322 rfl rfl rfl ?_
    refine Wlk.newO (pc' := 327) (C := "java/lang/String") at_324 (hw _ (List.mem_of_getElem? (i := 7) rfl)) (hw _ (List.mem_of_getElem? (i := 8) rfl)) (hw _ (List.mem_of_getElem? (i := 9) rfl)) (by decide) (by decide) rfl (fun b646 h647 le648 g649 E650 A651 D652 => ?_)
    have F653 : Fld Z h647 b646 "java/lang/String" "coder" "B" (.int (0 : Int32)) := D652 (Or.inr (hw _ (List.mem_of_getElem? (i := 33) rfl))) (ty := .byte) (by decide)
    have F654 : Fld Z h647 b646 "java/lang/String" "value" "[B" .null := D652 (Or.inr (hw _ (List.mem_of_getElem? (i := 35) rfl))) (ty := (.array .byte)) (by decide)
    refine Wlk.dup (pc' := 328) at_327 rfl rfl ?_
    refine Wlk.aload (pc' := 330) (v := (.ref b610)) at_328 rfl rfl rfl ?_
    have hR655 : ∀ c ∈ [c217, c224, c231, c238, c245, c252, c259], ¬ c < 0 ∧ ¬ (65535 : Int32) < c := by
      intro c hc
      simp only [List.mem_cons, List.not_mem_nil, or_false] at hc
      rcases hc with hc | hc | hc | hc | hc | hc | hc
      · rw [hc]; exact ⟨n218, n219⟩
      · rw [hc]; exact ⟨n225, n226⟩
      · rw [hc]; exact ⟨n232, n233⟩
      · rw [hc]; exact ⟨n239, n240⟩
      · rw [hc]; exact ⟨n246, n247⟩
      · rw [hc]; exact ⟨n253, n254⟩
      · rw [hc]; exact ⟨n260, n261⟩
    have c656 := (A645.ext E650)
    refine Wlk.callC (pc' := 333) (a := b646) (z := (⟨"java/lang/String", "<init>", "([C)V"⟩ : MethodName)) (argsL := [(.ref b610)]) (st := [(.ref b646)]) (W := 1) at_330 (hw _ (List.mem_of_getElem? (i := 10) rfl)) (hw _ (List.mem_of_getElem? (i := 11) rfl)) (hw _ (List.mem_of_getElem? (i := 9) rfl)) (hw _ (List.mem_of_getElem? (i := 12) rfl)) (by decide) rfl pd_11 rfl (st_ini1A hw b646 b610 .null (.int (0 : Int32)) kc612 [c217, c224, c231, c238, c245, c252, c259] (.int 0) zc h647 q0_Sta q1_Sta q2_Sta A651 F654 F653 g649 c656 O2 P3 (by first | exact hn | exact Nat.le_of_ble_eq_true rfl) (by first | exact hp | exact Nat.le_of_ble_eq_true rfl) hR655) (by decide) rfl (by decide) (by decide) (by decide) rfl rfl (fun v657 h658 J659 q660 => ?_)
    obtain ⟨t661, rfl, le662, g663, K664, n665⟩ := q660
    show Wlk _ _ _ _ _ _ _ _ _ h658 4 41 333 #[.val (.long p1), .second, .val (.long p2), .second, .val (.long p3), .second, .val (.int p4), .val (.int (7 : Int32)), .val (.int c217), .val (.int c224), .val (.int c231), .val (.int c238), .val (.int c245), .val (.int c252), .val (.int c259), .val (.int c266), .val (.int c273), .val (.int c280), .val (.ref b610), .val (.int (0 : Int32)), .val (.int (1 : Int32))] [(.ref b646)]
    refine Wlk.callSw (pc' := 336) (z := (⟨"com/example/wenyi/wenyi/request/YonyouSignature", "isSigned", "(Ljava/lang/String;)Z"⟩ : MethodName)) (argsL := [(.ref b646)]) (st := []) (W := 0) at_333 (hw _ (List.mem_of_getElem? (i := 36) rfl)) (hw _ (List.mem_of_getElem? (i := 37) rfl)) (hw _ (List.mem_of_getElem? (i := 38) rfl)) (hw _ (List.mem_of_getElem? (i := 39) rfl)) (by decide) pd_12 rfl (rm_sgn hw b646 t661 [c217, c224, c231, c238, c245, c252, c259] zc [] [] h658 n665 O2 P3 wS hcw hh_25 (by decide) (fun x hx => (hR655 x hx).1) (Nat.le_of_ble_eq_true rfl)) (by decide) rfl (by decide) (by decide) (by decide) rfl rfl (fun v666 h667 J668 q669 => ?_)
    obtain ⟨c670, rfl, K671, rfl⟩ := q669
    show Wlk _ _ _ _ _ _ _ _ _ h667 6 81 336 #[.val (.long p1), .second, .val (.long p2), .second, .val (.long p3), .second, .val (.int p4), .val (.int (7 : Int32)), .val (.int c217), .val (.int c224), .val (.int c231), .val (.int c238), .val (.int c245), .val (.int c252), .val (.int c259), .val (.int c266), .val (.int c273), .val (.int c280), .val (.ref b610), .val (.int (0 : Int32)), .val (.int (1 : Int32))] [(.int (if [c217, c224, c231, c238, c245, c252, c259] = sigL then (0 : Int32) else 1))]
    refine Wlk.iload (pc' := 338) (v := (1 : Int32)) at_336 rfl rfl ?_
    refine Wlk.icF (pc' := 341) at_338 (show (if [c217, c224, c231, c238, c245, c252, c259] = sigL then (0 : Int32) else 1) = (1 : Int32) from (if_neg (fun (q : [c217, c224, c231, c238, c245, c252, c259] = sigL) => absurd (congrArg List.length q) (show ¬ ((7 : Nat) = 9) by decide)))) rfl ?_
    refine Wlk.iconst (pc' := 342) (v := (1 : Int32)) at_341 rfl rfl ?_
    refine Wlk.goto (pc' := 346) at_342 (by decide) (by decide) ?_
    refine Wlk.ireturnN (t := .boolean) at_346 rfl (by simp) (by decide) (by decide) ?_
    exact rfl
  · skip
    refine Wlk.iload (pc' := 104) (v := (8 : Int32)) at_102 rfl rfl ?_
    refine Wlk.newP (pc' := 106) (ty := .char) (cap := 8) at_104 rfl (hw _ (List.mem_of_getElem? (i := 6) rfl)) (by decide) (by decide) (by decide) (by decide) (by decide) rfl (fun b672 h673 kc674 le675 g676 E677 A678 => ?_)
    have A679 : Arv Z h673 b672 kc674 .char (8 : Int32) [.int 0, .int 0, .int 0, .int 0, .int 0, .int 0, .int 0, .int 0] (.int 0) := A678.pad (pad_rep [] (.int 0) 8)
    refine Wlk.astore (pc' := 108) (Ls' := #[.val (.long p1), .second, .val (.long p2), .second, .val (.long p3), .second, .val (.int p4), .val (.int (8 : Int32)), .val (.int c217), .val (.int c224), .val (.int c231), .val (.int c238), .val (.int c245), .val (.int c252), .val (.int c259), .val (.int c266), .val (.int c273), .val (.int c280), .val (.ref b672), .unset, .unset]) at_106 rfl rfl rfl rfl ?_
    refine Wlk.iload (pc' := 110) (v := (8 : Int32)) at_108 rfl rfl ?_
    refine Wlk.ifF (pc' := 113) at_110 (show (0 : Int32) < (8 : Int32) from by decide) rfl ?_
    refine Wlk.aload (pc' := 115) (v := (.ref b672)) at_113 rfl rfl rfl ?_
    refine Wlk.iconst (pc' := 116) (v := (0 : Int32)) at_115 rfl rfl ?_
    refine Wlk.iload (pc' := 118) (v := c217) at_116 rfl rfl ?_
    refine Wlk.castore (pc' := 119) (i := 0) at_118 A679 ⟨by decide, by decide⟩ rfl (Nat.le_of_ble_eq_true rfl) g676 rfl (fun h680 W681 A682 => ?_)
    rw [nar_char n218 n219] at A682
    have A683 : Arv Z h680 b672 kc674 .char (8 : Int32) [(.int c217), (.int (0 : Int32)), (.int (0 : Int32)), (.int (0 : Int32)), (.int (0 : Int32)), (.int (0 : Int32)), (.int (0 : Int32)), (.int (0 : Int32))] (.int 0) := A682
    refine Wlk.iload (pc' := 121) (v := (8 : Int32)) at_119 rfl rfl ?_
    refine Wlk.iconst (pc' := 122) (v := (1 : Int32)) at_121 rfl rfl ?_
    refine Wlk.icF (pc' := 125) at_122 (show (1 : Int32) < (8 : Int32) from by decide) rfl ?_
    refine Wlk.aload (pc' := 127) (v := (.ref b672)) at_125 rfl rfl rfl ?_
    refine Wlk.iconst (pc' := 128) (v := (1 : Int32)) at_127 rfl rfl ?_
    refine Wlk.iload (pc' := 130) (v := c224) at_128 rfl rfl ?_
    refine Wlk.castore (pc' := 131) (i := 1) at_130 A683 ⟨by decide, by decide⟩ rfl (Nat.le_of_ble_eq_true rfl) g676 rfl (fun h684 W685 A686 => ?_)
    rw [nar_char n225 n226] at A686
    have A687 : Arv Z h684 b672 kc674 .char (8 : Int32) [(.int c217), (.int c224), (.int (0 : Int32)), (.int (0 : Int32)), (.int (0 : Int32)), (.int (0 : Int32)), (.int (0 : Int32)), (.int (0 : Int32))] (.int 0) := A686
    refine Wlk.iload (pc' := 133) (v := (8 : Int32)) at_131 rfl rfl ?_
    refine Wlk.iconst (pc' := 134) (v := (2 : Int32)) at_133 rfl rfl ?_
    refine Wlk.icF (pc' := 137) at_134 (show (2 : Int32) < (8 : Int32) from by decide) rfl ?_
    refine Wlk.aload (pc' := 139) (v := (.ref b672)) at_137 rfl rfl rfl ?_
    refine Wlk.iconst (pc' := 140) (v := (2 : Int32)) at_139 rfl rfl ?_
    refine Wlk.iload (pc' := 142) (v := c231) at_140 rfl rfl ?_
    refine Wlk.castore (pc' := 143) (i := 2) at_142 A687 ⟨by decide, by decide⟩ rfl (Nat.le_of_ble_eq_true rfl) g676 rfl (fun h688 W689 A690 => ?_)
    rw [nar_char n232 n233] at A690
    have A691 : Arv Z h688 b672 kc674 .char (8 : Int32) [(.int c217), (.int c224), (.int c231), (.int (0 : Int32)), (.int (0 : Int32)), (.int (0 : Int32)), (.int (0 : Int32)), (.int (0 : Int32))] (.int 0) := A690
    refine Wlk.iload (pc' := 145) (v := (8 : Int32)) at_143 rfl rfl ?_
    refine Wlk.iconst (pc' := 146) (v := (3 : Int32)) at_145 rfl rfl ?_
    refine Wlk.icF (pc' := 149) at_146 (show (3 : Int32) < (8 : Int32) from by decide) rfl ?_
    refine Wlk.aload (pc' := 151) (v := (.ref b672)) at_149 rfl rfl rfl ?_
    refine Wlk.iconst (pc' := 152) (v := (3 : Int32)) at_151 rfl rfl ?_
    refine Wlk.iload (pc' := 154) (v := c238) at_152 rfl rfl ?_
    refine Wlk.castore (pc' := 155) (i := 3) at_154 A691 ⟨by decide, by decide⟩ rfl (Nat.le_of_ble_eq_true rfl) g676 rfl (fun h692 W693 A694 => ?_)
    rw [nar_char n239 n240] at A694
    have A695 : Arv Z h692 b672 kc674 .char (8 : Int32) [(.int c217), (.int c224), (.int c231), (.int c238), (.int (0 : Int32)), (.int (0 : Int32)), (.int (0 : Int32)), (.int (0 : Int32))] (.int 0) := A694
    refine Wlk.iload (pc' := 157) (v := (8 : Int32)) at_155 rfl rfl ?_
    refine Wlk.iconst (pc' := 158) (v := (4 : Int32)) at_157 rfl rfl ?_
    refine Wlk.icF (pc' := 161) at_158 (show (4 : Int32) < (8 : Int32) from by decide) rfl ?_
    refine Wlk.aload (pc' := 163) (v := (.ref b672)) at_161 rfl rfl rfl ?_
    refine Wlk.iconst (pc' := 164) (v := (4 : Int32)) at_163 rfl rfl ?_
    refine Wlk.iload (pc' := 166) (v := c245) at_164 rfl rfl ?_
    refine Wlk.castore (pc' := 167) (i := 4) at_166 A695 ⟨by decide, by decide⟩ rfl (Nat.le_of_ble_eq_true rfl) g676 rfl (fun h696 W697 A698 => ?_)
    rw [nar_char n246 n247] at A698
    have A699 : Arv Z h696 b672 kc674 .char (8 : Int32) [(.int c217), (.int c224), (.int c231), (.int c238), (.int c245), (.int (0 : Int32)), (.int (0 : Int32)), (.int (0 : Int32))] (.int 0) := A698
    refine Wlk.iload (pc' := 169) (v := (8 : Int32)) at_167 rfl rfl ?_
    refine Wlk.iconst (pc' := 170) (v := (5 : Int32)) at_169 rfl rfl ?_
    refine Wlk.icF (pc' := 173) at_170 (show (5 : Int32) < (8 : Int32) from by decide) rfl ?_
    refine Wlk.aload (pc' := 175) (v := (.ref b672)) at_173 rfl rfl rfl ?_
    refine Wlk.iconst (pc' := 176) (v := (5 : Int32)) at_175 rfl rfl ?_
    refine Wlk.iload (pc' := 178) (v := c252) at_176 rfl rfl ?_
    refine Wlk.castore (pc' := 179) (i := 5) at_178 A699 ⟨by decide, by decide⟩ rfl (Nat.le_of_ble_eq_true rfl) g676 rfl (fun h700 W701 A702 => ?_)
    rw [nar_char n253 n254] at A702
    have A703 : Arv Z h700 b672 kc674 .char (8 : Int32) [(.int c217), (.int c224), (.int c231), (.int c238), (.int c245), (.int c252), (.int (0 : Int32)), (.int (0 : Int32))] (.int 0) := A702
    refine Wlk.iload (pc' := 181) (v := (8 : Int32)) at_179 rfl rfl ?_
    refine Wlk.bipush (pc' := 183) (v := (6 : Int32)) at_181 (by decide) rfl ?_
    refine Wlk.icF (pc' := 186) at_183 (show (6 : Int32) < (8 : Int32) from by decide) rfl ?_
    refine Wlk.aload (pc' := 188) (v := (.ref b672)) at_186 rfl rfl rfl ?_
    refine Wlk.bipush (pc' := 190) (v := (6 : Int32)) at_188 (by decide) rfl ?_
    refine Wlk.iload (pc' := 192) (v := c259) at_190 rfl rfl ?_
    refine Wlk.castore (pc' := 193) (i := 6) at_192 A703 ⟨by decide, by decide⟩ rfl (Nat.le_of_ble_eq_true rfl) g676 rfl (fun h704 W705 A706 => ?_)
    rw [nar_char n260 n261] at A706
    have A707 : Arv Z h704 b672 kc674 .char (8 : Int32) [(.int c217), (.int c224), (.int c231), (.int c238), (.int c245), (.int c252), (.int c259), (.int (0 : Int32))] (.int 0) := A706
    refine Wlk.iload (pc' := 195) (v := (8 : Int32)) at_193 rfl rfl ?_
    refine Wlk.bipush (pc' := 197) (v := (7 : Int32)) at_195 (by decide) rfl ?_
    refine Wlk.icF (pc' := 200) at_197 (show (7 : Int32) < (8 : Int32) from by decide) rfl ?_
    refine Wlk.aload (pc' := 202) (v := (.ref b672)) at_200 rfl rfl rfl ?_
    refine Wlk.bipush (pc' := 204) (v := (7 : Int32)) at_202 (by decide) rfl ?_
    refine Wlk.iload (pc' := 206) (v := c266) at_204 rfl rfl ?_
    refine Wlk.castore (pc' := 207) (i := 7) at_206 A707 ⟨by decide, by decide⟩ rfl (Nat.le_of_ble_eq_true rfl) g676 rfl (fun h708 W709 A710 => ?_)
    rw [nar_char n267 n268] at A710
    have A711 : Arv Z h708 b672 kc674 .char (8 : Int32) [(.int c217), (.int c224), (.int c231), (.int c238), (.int c245), (.int c252), (.int c259), (.int c266)] (.int 0) := A710
    refine Wlk.iload (pc' := 209) (v := (8 : Int32)) at_207 rfl rfl ?_
    refine Wlk.bipush (pc' := 211) (v := (8 : Int32)) at_209 (by decide) rfl ?_
    refine Wlk.icT (pc' := 221) at_211 (by decide) (by decide) (show ¬ ((8 : Int32) < (8 : Int32)) from by decide) ?_
    refine Wlk.iload (pc' := 223) (v := (8 : Int32)) at_221 rfl rfl ?_
    refine Wlk.bipush (pc' := 225) (v := (9 : Int32)) at_223 (by decide) rfl ?_
    refine Wlk.icT (pc' := 235) at_225 (by decide) (by decide) (show ¬ ((9 : Int32) < (8 : Int32)) from by decide) ?_
    refine Wlk.iload (pc' := 237) (v := (8 : Int32)) at_235 rfl rfl ?_
    refine Wlk.bipush (pc' := 239) (v := (9 : Int32)) at_237 (by decide) rfl ?_
    refine Wlk.icT (pc' := 309) at_239 (by decide) (by decide) (show ¬ ((8 : Int32) = (9 : Int32)) from by decide) ?_
    refine Wlk.iconst (pc' := 310) (v := (0 : Int32)) at_309 rfl rfl ?_
    refine Wlk.istore (pc' := 312) (Ls' := #[.val (.long p1), .second, .val (.long p2), .second, .val (.long p3), .second, .val (.int p4), .val (.int (8 : Int32)), .val (.int c217), .val (.int c224), .val (.int c231), .val (.int c238), .val (.int c245), .val (.int c252), .val (.int c259), .val (.int c266), .val (.int c273), .val (.int c280), .val (.ref b672), .val (.int (0 : Int32)), .unset]) at_310 rfl rfl rfl ?_
    refine Wlk.iload (pc' := 314) (v := (0 : Int32)) at_312 rfl rfl ?_
    refine Wlk.ifF (pc' := 317) at_314 (show (0 : Int32) = (0 : Int32) from by decide) rfl ?_
    refine Wlk.iconst (pc' := 318) (v := (1 : Int32)) at_317 rfl rfl ?_
    refine Wlk.goto (pc' := 322) at_318 (by decide) (by decide) ?_
    refine Wlk.istore (pc' := 324) (Ls' := #[.val (.long p1), .second, .val (.long p2), .second, .val (.long p3), .second, .val (.int p4), .val (.int (8 : Int32)), .val (.int c217), .val (.int c224), .val (.int c231), .val (.int c238), .val (.int c245), .val (.int c252), .val (.int c259), .val (.int c266), .val (.int c273), .val (.int c280), .val (.ref b672), .val (.int (0 : Int32)), .val (.int (1 : Int32))]) at_322 rfl rfl rfl ?_
    refine Wlk.newO (pc' := 327) (C := "java/lang/String") at_324 (hw _ (List.mem_of_getElem? (i := 7) rfl)) (hw _ (List.mem_of_getElem? (i := 8) rfl)) (hw _ (List.mem_of_getElem? (i := 9) rfl)) (by decide) (by decide) rfl (fun b712 h713 le714 g715 E716 A717 D718 => ?_)
    have F719 : Fld Z h713 b712 "java/lang/String" "coder" "B" (.int (0 : Int32)) := D718 (Or.inr (hw _ (List.mem_of_getElem? (i := 33) rfl))) (ty := .byte) (by decide)
    have F720 : Fld Z h713 b712 "java/lang/String" "value" "[B" .null := D718 (Or.inr (hw _ (List.mem_of_getElem? (i := 35) rfl))) (ty := (.array .byte)) (by decide)
    refine Wlk.dup (pc' := 328) at_327 rfl rfl ?_
    refine Wlk.aload (pc' := 330) (v := (.ref b672)) at_328 rfl rfl rfl ?_
    have hR721 : ∀ c ∈ [c217, c224, c231, c238, c245, c252, c259, c266], ¬ c < 0 ∧ ¬ (65535 : Int32) < c := by
      intro c hc
      simp only [List.mem_cons, List.not_mem_nil, or_false] at hc
      rcases hc with hc | hc | hc | hc | hc | hc | hc | hc
      · rw [hc]; exact ⟨n218, n219⟩
      · rw [hc]; exact ⟨n225, n226⟩
      · rw [hc]; exact ⟨n232, n233⟩
      · rw [hc]; exact ⟨n239, n240⟩
      · rw [hc]; exact ⟨n246, n247⟩
      · rw [hc]; exact ⟨n253, n254⟩
      · rw [hc]; exact ⟨n260, n261⟩
      · rw [hc]; exact ⟨n267, n268⟩
    have c722 := (A711.ext E716)
    refine Wlk.callC (pc' := 333) (a := b712) (z := (⟨"java/lang/String", "<init>", "([C)V"⟩ : MethodName)) (argsL := [(.ref b672)]) (st := [(.ref b712)]) (W := 1) at_330 (hw _ (List.mem_of_getElem? (i := 10) rfl)) (hw _ (List.mem_of_getElem? (i := 11) rfl)) (hw _ (List.mem_of_getElem? (i := 9) rfl)) (hw _ (List.mem_of_getElem? (i := 12) rfl)) (by decide) rfl pd_11 rfl (st_ini1A hw b712 b672 .null (.int (0 : Int32)) kc674 [c217, c224, c231, c238, c245, c252, c259, c266] (.int 0) zc h713 q0_Sta q1_Sta q2_Sta A717 F720 F719 g715 c722 O2 P3 (by first | exact hn | exact Nat.le_of_ble_eq_true rfl) (by first | exact hp | exact Nat.le_of_ble_eq_true rfl) hR721) (by decide) rfl (by decide) (by decide) (by decide) rfl rfl (fun v723 h724 J725 q726 => ?_)
    obtain ⟨t727, rfl, le728, g729, K730, n731⟩ := q726
    show Wlk _ _ _ _ _ _ _ _ _ h724 4 42 333 #[.val (.long p1), .second, .val (.long p2), .second, .val (.long p3), .second, .val (.int p4), .val (.int (8 : Int32)), .val (.int c217), .val (.int c224), .val (.int c231), .val (.int c238), .val (.int c245), .val (.int c252), .val (.int c259), .val (.int c266), .val (.int c273), .val (.int c280), .val (.ref b672), .val (.int (0 : Int32)), .val (.int (1 : Int32))] [(.ref b712)]
    refine Wlk.callSw (pc' := 336) (z := (⟨"com/example/wenyi/wenyi/request/YonyouSignature", "isSigned", "(Ljava/lang/String;)Z"⟩ : MethodName)) (argsL := [(.ref b712)]) (st := []) (W := 0) at_333 (hw _ (List.mem_of_getElem? (i := 36) rfl)) (hw _ (List.mem_of_getElem? (i := 37) rfl)) (hw _ (List.mem_of_getElem? (i := 38) rfl)) (hw _ (List.mem_of_getElem? (i := 39) rfl)) (by decide) pd_12 rfl (rm_sgn hw b712 t727 [c217, c224, c231, c238, c245, c252, c259, c266] zc [] [] h724 n731 O2 P3 wS hcw hh_25 (by decide) (fun x hx => (hR721 x hx).1) (Nat.le_of_ble_eq_true rfl)) (by decide) rfl (by decide) (by decide) (by decide) rfl rfl (fun v732 h733 J734 q735 => ?_)
    obtain ⟨c736, rfl, K737, rfl⟩ := q735
    show Wlk _ _ _ _ _ _ _ _ _ h733 6 82 336 #[.val (.long p1), .second, .val (.long p2), .second, .val (.long p3), .second, .val (.int p4), .val (.int (8 : Int32)), .val (.int c217), .val (.int c224), .val (.int c231), .val (.int c238), .val (.int c245), .val (.int c252), .val (.int c259), .val (.int c266), .val (.int c273), .val (.int c280), .val (.ref b672), .val (.int (0 : Int32)), .val (.int (1 : Int32))] [(.int (if [c217, c224, c231, c238, c245, c252, c259, c266] = sigL then (0 : Int32) else 1))]
    refine Wlk.iload (pc' := 338) (v := (1 : Int32)) at_336 rfl rfl ?_
    refine Wlk.icF (pc' := 341) at_338 (show (if [c217, c224, c231, c238, c245, c252, c259, c266] = sigL then (0 : Int32) else 1) = (1 : Int32) from (if_neg (fun (q : [c217, c224, c231, c238, c245, c252, c259, c266] = sigL) => absurd (congrArg List.length q) (show ¬ ((8 : Nat) = 9) by decide)))) rfl ?_
    refine Wlk.iconst (pc' := 342) (v := (1 : Int32)) at_341 rfl rfl ?_
    refine Wlk.goto (pc' := 346) at_342 (by decide) (by decide) ?_
    refine Wlk.ireturnN (t := .boolean) at_346 rfl (by simp) (by decide) (by decide) ?_
    exact rfl
  · skip
    refine Wlk.iload (pc' := 104) (v := (9 : Int32)) at_102 rfl rfl ?_
    refine Wlk.newP (pc' := 106) (ty := .char) (cap := 9) at_104 rfl (hw _ (List.mem_of_getElem? (i := 6) rfl)) (by decide) (by decide) (by decide) (by decide) (by decide) rfl (fun b738 h739 kc740 le741 g742 E743 A744 => ?_)
    have A745 : Arv Z h739 b738 kc740 .char (9 : Int32) [.int 0, .int 0, .int 0, .int 0, .int 0, .int 0, .int 0, .int 0, .int 0] (.int 0) := A744.pad (pad_rep [] (.int 0) 9)
    refine Wlk.astore (pc' := 108) (Ls' := #[.val (.long p1), .second, .val (.long p2), .second, .val (.long p3), .second, .val (.int p4), .val (.int (9 : Int32)), .val (.int c217), .val (.int c224), .val (.int c231), .val (.int c238), .val (.int c245), .val (.int c252), .val (.int c259), .val (.int c266), .val (.int c273), .val (.int c280), .val (.ref b738), .unset, .unset]) at_106 rfl rfl rfl rfl ?_
    refine Wlk.iload (pc' := 110) (v := (9 : Int32)) at_108 rfl rfl ?_
    refine Wlk.ifF (pc' := 113) at_110 (show (0 : Int32) < (9 : Int32) from by decide) rfl ?_
    refine Wlk.aload (pc' := 115) (v := (.ref b738)) at_113 rfl rfl rfl ?_
    refine Wlk.iconst (pc' := 116) (v := (0 : Int32)) at_115 rfl rfl ?_
    refine Wlk.iload (pc' := 118) (v := c217) at_116 rfl rfl ?_
    refine Wlk.castore (pc' := 119) (i := 0) at_118 A745 ⟨by decide, by decide⟩ rfl (Nat.le_of_ble_eq_true rfl) g742 rfl (fun h746 W747 A748 => ?_)
    rw [nar_char n218 n219] at A748
    have A749 : Arv Z h746 b738 kc740 .char (9 : Int32) [(.int c217), (.int (0 : Int32)), (.int (0 : Int32)), (.int (0 : Int32)), (.int (0 : Int32)), (.int (0 : Int32)), (.int (0 : Int32)), (.int (0 : Int32)), (.int (0 : Int32))] (.int 0) := A748
    refine Wlk.iload (pc' := 121) (v := (9 : Int32)) at_119 rfl rfl ?_
    refine Wlk.iconst (pc' := 122) (v := (1 : Int32)) at_121 rfl rfl ?_
    refine Wlk.icF (pc' := 125) at_122 (show (1 : Int32) < (9 : Int32) from by decide) rfl ?_
    refine Wlk.aload (pc' := 127) (v := (.ref b738)) at_125 rfl rfl rfl ?_
    refine Wlk.iconst (pc' := 128) (v := (1 : Int32)) at_127 rfl rfl ?_
    refine Wlk.iload (pc' := 130) (v := c224) at_128 rfl rfl ?_
    refine Wlk.castore (pc' := 131) (i := 1) at_130 A749 ⟨by decide, by decide⟩ rfl (Nat.le_of_ble_eq_true rfl) g742 rfl (fun h750 W751 A752 => ?_)
    rw [nar_char n225 n226] at A752
    have A753 : Arv Z h750 b738 kc740 .char (9 : Int32) [(.int c217), (.int c224), (.int (0 : Int32)), (.int (0 : Int32)), (.int (0 : Int32)), (.int (0 : Int32)), (.int (0 : Int32)), (.int (0 : Int32)), (.int (0 : Int32))] (.int 0) := A752
    refine Wlk.iload (pc' := 133) (v := (9 : Int32)) at_131 rfl rfl ?_
    refine Wlk.iconst (pc' := 134) (v := (2 : Int32)) at_133 rfl rfl ?_
    refine Wlk.icF (pc' := 137) at_134 (show (2 : Int32) < (9 : Int32) from by decide) rfl ?_
    refine Wlk.aload (pc' := 139) (v := (.ref b738)) at_137 rfl rfl rfl ?_
    refine Wlk.iconst (pc' := 140) (v := (2 : Int32)) at_139 rfl rfl ?_
    refine Wlk.iload (pc' := 142) (v := c231) at_140 rfl rfl ?_
    refine Wlk.castore (pc' := 143) (i := 2) at_142 A753 ⟨by decide, by decide⟩ rfl (Nat.le_of_ble_eq_true rfl) g742 rfl (fun h754 W755 A756 => ?_)
    rw [nar_char n232 n233] at A756
    have A757 : Arv Z h754 b738 kc740 .char (9 : Int32) [(.int c217), (.int c224), (.int c231), (.int (0 : Int32)), (.int (0 : Int32)), (.int (0 : Int32)), (.int (0 : Int32)), (.int (0 : Int32)), (.int (0 : Int32))] (.int 0) := A756
    refine Wlk.iload (pc' := 145) (v := (9 : Int32)) at_143 rfl rfl ?_
    refine Wlk.iconst (pc' := 146) (v := (3 : Int32)) at_145 rfl rfl ?_
    refine Wlk.icF (pc' := 149) at_146 (show (3 : Int32) < (9 : Int32) from by decide) rfl ?_
    refine Wlk.aload (pc' := 151) (v := (.ref b738)) at_149 rfl rfl rfl ?_
    refine Wlk.iconst (pc' := 152) (v := (3 : Int32)) at_151 rfl rfl ?_
    refine Wlk.iload (pc' := 154) (v := c238) at_152 rfl rfl ?_
    refine Wlk.castore (pc' := 155) (i := 3) at_154 A757 ⟨by decide, by decide⟩ rfl (Nat.le_of_ble_eq_true rfl) g742 rfl (fun h758 W759 A760 => ?_)
    rw [nar_char n239 n240] at A760
    have A761 : Arv Z h758 b738 kc740 .char (9 : Int32) [(.int c217), (.int c224), (.int c231), (.int c238), (.int (0 : Int32)), (.int (0 : Int32)), (.int (0 : Int32)), (.int (0 : Int32)), (.int (0 : Int32))] (.int 0) := A760
    refine Wlk.iload (pc' := 157) (v := (9 : Int32)) at_155 rfl rfl ?_
    refine Wlk.iconst (pc' := 158) (v := (4 : Int32)) at_157 rfl rfl ?_
    refine Wlk.icF (pc' := 161) at_158 (show (4 : Int32) < (9 : Int32) from by decide) rfl ?_
    refine Wlk.aload (pc' := 163) (v := (.ref b738)) at_161 rfl rfl rfl ?_
    refine Wlk.iconst (pc' := 164) (v := (4 : Int32)) at_163 rfl rfl ?_
    refine Wlk.iload (pc' := 166) (v := c245) at_164 rfl rfl ?_
    refine Wlk.castore (pc' := 167) (i := 4) at_166 A761 ⟨by decide, by decide⟩ rfl (Nat.le_of_ble_eq_true rfl) g742 rfl (fun h762 W763 A764 => ?_)
    rw [nar_char n246 n247] at A764
    have A765 : Arv Z h762 b738 kc740 .char (9 : Int32) [(.int c217), (.int c224), (.int c231), (.int c238), (.int c245), (.int (0 : Int32)), (.int (0 : Int32)), (.int (0 : Int32)), (.int (0 : Int32))] (.int 0) := A764
    refine Wlk.iload (pc' := 169) (v := (9 : Int32)) at_167 rfl rfl ?_
    refine Wlk.iconst (pc' := 170) (v := (5 : Int32)) at_169 rfl rfl ?_
    refine Wlk.icF (pc' := 173) at_170 (show (5 : Int32) < (9 : Int32) from by decide) rfl ?_
    refine Wlk.aload (pc' := 175) (v := (.ref b738)) at_173 rfl rfl rfl ?_
    refine Wlk.iconst (pc' := 176) (v := (5 : Int32)) at_175 rfl rfl ?_
    refine Wlk.iload (pc' := 178) (v := c252) at_176 rfl rfl ?_
    refine Wlk.castore (pc' := 179) (i := 5) at_178 A765 ⟨by decide, by decide⟩ rfl (Nat.le_of_ble_eq_true rfl) g742 rfl (fun h766 W767 A768 => ?_)
    rw [nar_char n253 n254] at A768
    have A769 : Arv Z h766 b738 kc740 .char (9 : Int32) [(.int c217), (.int c224), (.int c231), (.int c238), (.int c245), (.int c252), (.int (0 : Int32)), (.int (0 : Int32)), (.int (0 : Int32))] (.int 0) := A768
    refine Wlk.iload (pc' := 181) (v := (9 : Int32)) at_179 rfl rfl ?_
    refine Wlk.bipush (pc' := 183) (v := (6 : Int32)) at_181 (by decide) rfl ?_
    refine Wlk.icF (pc' := 186) at_183 (show (6 : Int32) < (9 : Int32) from by decide) rfl ?_
    refine Wlk.aload (pc' := 188) (v := (.ref b738)) at_186 rfl rfl rfl ?_
    refine Wlk.bipush (pc' := 190) (v := (6 : Int32)) at_188 (by decide) rfl ?_
    refine Wlk.iload (pc' := 192) (v := c259) at_190 rfl rfl ?_
    refine Wlk.castore (pc' := 193) (i := 6) at_192 A769 ⟨by decide, by decide⟩ rfl (Nat.le_of_ble_eq_true rfl) g742 rfl (fun h770 W771 A772 => ?_)
    rw [nar_char n260 n261] at A772
    have A773 : Arv Z h770 b738 kc740 .char (9 : Int32) [(.int c217), (.int c224), (.int c231), (.int c238), (.int c245), (.int c252), (.int c259), (.int (0 : Int32)), (.int (0 : Int32))] (.int 0) := A772
    refine Wlk.iload (pc' := 195) (v := (9 : Int32)) at_193 rfl rfl ?_
    refine Wlk.bipush (pc' := 197) (v := (7 : Int32)) at_195 (by decide) rfl ?_
    refine Wlk.icF (pc' := 200) at_197 (show (7 : Int32) < (9 : Int32) from by decide) rfl ?_
    refine Wlk.aload (pc' := 202) (v := (.ref b738)) at_200 rfl rfl rfl ?_
    refine Wlk.bipush (pc' := 204) (v := (7 : Int32)) at_202 (by decide) rfl ?_
    refine Wlk.iload (pc' := 206) (v := c266) at_204 rfl rfl ?_
    refine Wlk.castore (pc' := 207) (i := 7) at_206 A773 ⟨by decide, by decide⟩ rfl (Nat.le_of_ble_eq_true rfl) g742 rfl (fun h774 W775 A776 => ?_)
    rw [nar_char n267 n268] at A776
    have A777 : Arv Z h774 b738 kc740 .char (9 : Int32) [(.int c217), (.int c224), (.int c231), (.int c238), (.int c245), (.int c252), (.int c259), (.int c266), (.int (0 : Int32))] (.int 0) := A776
    refine Wlk.iload (pc' := 209) (v := (9 : Int32)) at_207 rfl rfl ?_
    refine Wlk.bipush (pc' := 211) (v := (8 : Int32)) at_209 (by decide) rfl ?_
    refine Wlk.icF (pc' := 214) at_211 (show (8 : Int32) < (9 : Int32) from by decide) rfl ?_
    refine Wlk.aload (pc' := 216) (v := (.ref b738)) at_214 rfl rfl rfl ?_
    refine Wlk.bipush (pc' := 218) (v := (8 : Int32)) at_216 (by decide) rfl ?_
    refine Wlk.iload (pc' := 220) (v := c273) at_218 rfl rfl ?_
    refine Wlk.castore (pc' := 221) (i := 8) at_220 A777 ⟨by decide, by decide⟩ rfl (Nat.le_of_ble_eq_true rfl) g742 rfl (fun h778 W779 A780 => ?_)
    rw [nar_char n274 n275] at A780
    have A781 : Arv Z h778 b738 kc740 .char (9 : Int32) [(.int c217), (.int c224), (.int c231), (.int c238), (.int c245), (.int c252), (.int c259), (.int c266), (.int c273)] (.int 0) := A780
    refine Wlk.iload (pc' := 223) (v := (9 : Int32)) at_221 rfl rfl ?_
    refine Wlk.bipush (pc' := 225) (v := (9 : Int32)) at_223 (by decide) rfl ?_
    refine Wlk.icT (pc' := 235) at_225 (by decide) (by decide) (show ¬ ((9 : Int32) < (9 : Int32)) from by decide) ?_
    refine Wlk.iload (pc' := 237) (v := (9 : Int32)) at_235 rfl rfl ?_
    refine Wlk.bipush (pc' := 239) (v := (9 : Int32)) at_237 (by decide) rfl ?_
    refine Wlk.icF (pc' := 242) at_239 (show (9 : Int32) = (9 : Int32) from by decide) rfl ?_
    refine Wlk.iload (pc' := 244) (v := c217) at_242 rfl rfl ?_
    refine Wlk.bipush (pc' := 246) (v := (115 : Int32)) at_244 (by decide) rfl ?_
    refine Wlk.ic_ (pcT := 309) (pcF := 249) at_246 (by decide) (by decide) rfl (fun (hc782 : ¬ (c217 = (115 : Int32))) => ?_) (fun (hc782 : c217 = (115 : Int32)) => ?_)
    · skip
      refine Wlk.iconst (pc' := 310) (v := (0 : Int32)) at_309 rfl rfl ?_
      refine Wlk.istore (pc' := 312) (Ls' := #[.val (.long p1), .second, .val (.long p2), .second, .val (.long p3), .second, .val (.int p4), .val (.int (9 : Int32)), .val (.int c217), .val (.int c224), .val (.int c231), .val (.int c238), .val (.int c245), .val (.int c252), .val (.int c259), .val (.int c266), .val (.int c273), .val (.int c280), .val (.ref b738), .val (.int (0 : Int32)), .unset]) at_310 rfl rfl rfl ?_
      refine Wlk.iload (pc' := 314) (v := (0 : Int32)) at_312 rfl rfl ?_
      refine Wlk.ifF (pc' := 317) at_314 (show (0 : Int32) = (0 : Int32) from by decide) rfl ?_
      refine Wlk.iconst (pc' := 318) (v := (1 : Int32)) at_317 rfl rfl ?_
      refine Wlk.goto (pc' := 322) at_318 (by decide) (by decide) ?_
      refine Wlk.istore (pc' := 324) (Ls' := #[.val (.long p1), .second, .val (.long p2), .second, .val (.long p3), .second, .val (.int p4), .val (.int (9 : Int32)), .val (.int c217), .val (.int c224), .val (.int c231), .val (.int c238), .val (.int c245), .val (.int c252), .val (.int c259), .val (.int c266), .val (.int c273), .val (.int c280), .val (.ref b738), .val (.int (0 : Int32)), .val (.int (1 : Int32))]) at_322 rfl rfl rfl ?_
      refine Wlk.newO (pc' := 327) (C := "java/lang/String") at_324 (hw _ (List.mem_of_getElem? (i := 7) rfl)) (hw _ (List.mem_of_getElem? (i := 8) rfl)) (hw _ (List.mem_of_getElem? (i := 9) rfl)) (by decide) (by decide) rfl (fun b783 h784 le785 g786 E787 A788 D789 => ?_)
      have F790 : Fld Z h784 b783 "java/lang/String" "coder" "B" (.int (0 : Int32)) := D789 (Or.inr (hw _ (List.mem_of_getElem? (i := 33) rfl))) (ty := .byte) (by decide)
      have F791 : Fld Z h784 b783 "java/lang/String" "value" "[B" .null := D789 (Or.inr (hw _ (List.mem_of_getElem? (i := 35) rfl))) (ty := (.array .byte)) (by decide)
      refine Wlk.dup (pc' := 328) at_327 rfl rfl ?_
      refine Wlk.aload (pc' := 330) (v := (.ref b738)) at_328 rfl rfl rfl ?_
      have hR792 : ∀ c ∈ [c217, c224, c231, c238, c245, c252, c259, c266, c273], ¬ c < 0 ∧ ¬ (65535 : Int32) < c := by
        intro c hc
        simp only [List.mem_cons, List.not_mem_nil, or_false] at hc
        rcases hc with hc | hc | hc | hc | hc | hc | hc | hc | hc
        · rw [hc]; exact ⟨n218, n219⟩
        · rw [hc]; exact ⟨n225, n226⟩
        · rw [hc]; exact ⟨n232, n233⟩
        · rw [hc]; exact ⟨n239, n240⟩
        · rw [hc]; exact ⟨n246, n247⟩
        · rw [hc]; exact ⟨n253, n254⟩
        · rw [hc]; exact ⟨n260, n261⟩
        · rw [hc]; exact ⟨n267, n268⟩
        · rw [hc]; exact ⟨n274, n275⟩
      have c793 := (A781.ext E787)
      refine Wlk.callC (pc' := 333) (a := b783) (z := (⟨"java/lang/String", "<init>", "([C)V"⟩ : MethodName)) (argsL := [(.ref b738)]) (st := [(.ref b783)]) (W := 1) at_330 (hw _ (List.mem_of_getElem? (i := 10) rfl)) (hw _ (List.mem_of_getElem? (i := 11) rfl)) (hw _ (List.mem_of_getElem? (i := 9) rfl)) (hw _ (List.mem_of_getElem? (i := 12) rfl)) (by decide) rfl pd_11 rfl (st_ini1A hw b783 b738 .null (.int (0 : Int32)) kc740 [c217, c224, c231, c238, c245, c252, c259, c266, c273] (.int 0) zc h784 q0_Sta q1_Sta q2_Sta A788 F791 F790 g786 c793 O2 P3 (by first | exact hn | exact Nat.le_of_ble_eq_true rfl) (by first | exact hp | exact Nat.le_of_ble_eq_true rfl) hR792) (by decide) rfl (by decide) (by decide) (by decide) rfl rfl (fun v794 h795 J796 q797 => ?_)
      obtain ⟨t798, rfl, le799, g800, K801, n802⟩ := q797
      show Wlk _ _ _ _ _ _ _ _ _ h795 4 43 333 #[.val (.long p1), .second, .val (.long p2), .second, .val (.long p3), .second, .val (.int p4), .val (.int (9 : Int32)), .val (.int c217), .val (.int c224), .val (.int c231), .val (.int c238), .val (.int c245), .val (.int c252), .val (.int c259), .val (.int c266), .val (.int c273), .val (.int c280), .val (.ref b738), .val (.int (0 : Int32)), .val (.int (1 : Int32))] [(.ref b783)]
      refine Wlk.callSw (pc' := 336) (z := (⟨"com/example/wenyi/wenyi/request/YonyouSignature", "isSigned", "(Ljava/lang/String;)Z"⟩ : MethodName)) (argsL := [(.ref b783)]) (st := []) (W := 0) at_333 (hw _ (List.mem_of_getElem? (i := 36) rfl)) (hw _ (List.mem_of_getElem? (i := 37) rfl)) (hw _ (List.mem_of_getElem? (i := 38) rfl)) (hw _ (List.mem_of_getElem? (i := 39) rfl)) (by decide) pd_12 rfl (rm_sgn hw b783 t798 [c217, c224, c231, c238, c245, c252, c259, c266, c273] zc [] [] h795 n802 O2 P3 wS hcw hh_25 (by decide) (fun x hx => (hR792 x hx).1) (Nat.le_of_ble_eq_true rfl)) (by decide) rfl (by decide) (by decide) (by decide) rfl rfl (fun v803 h804 J805 q806 => ?_)
      obtain ⟨c807, rfl, K808, rfl⟩ := q806
      show Wlk _ _ _ _ _ _ _ _ _ h804 6 83 336 #[.val (.long p1), .second, .val (.long p2), .second, .val (.long p3), .second, .val (.int p4), .val (.int (9 : Int32)), .val (.int c217), .val (.int c224), .val (.int c231), .val (.int c238), .val (.int c245), .val (.int c252), .val (.int c259), .val (.int c266), .val (.int c273), .val (.int c280), .val (.ref b738), .val (.int (0 : Int32)), .val (.int (1 : Int32))] [(.int (if [c217, c224, c231, c238, c245, c252, c259, c266, c273] = sigL then (0 : Int32) else 1))]
      refine Wlk.iload (pc' := 338) (v := (1 : Int32)) at_336 rfl rfl ?_
      refine Wlk.icF (pc' := 341) at_338 (show (if [c217, c224, c231, c238, c245, c252, c259, c266, c273] = sigL then (0 : Int32) else 1) = (1 : Int32) from (if_neg (fun (q : [c217, c224, c231, c238, c245, c252, c259, c266, c273] = sigL) => hc782 (congrArg (fun l : List Int32 => l.getD 0 0) q)))) rfl ?_
      refine Wlk.iconst (pc' := 342) (v := (1 : Int32)) at_341 rfl rfl ?_
      refine Wlk.goto (pc' := 346) at_342 (by decide) (by decide) ?_
      refine Wlk.ireturnN (t := .boolean) at_346 rfl (by simp) (by decide) (by decide) ?_
      exact rfl
    · skip
      refine Wlk.iload (pc' := 251) (v := c224) at_249 rfl rfl ?_
      refine Wlk.bipush (pc' := 253) (v := (105 : Int32)) at_251 (by decide) rfl ?_
      refine Wlk.ic_ (pcT := 309) (pcF := 256) at_253 (by decide) (by decide) rfl (fun (hc809 : ¬ (c224 = (105 : Int32))) => ?_) (fun (hc809 : c224 = (105 : Int32)) => ?_)
      · skip
        refine Wlk.iconst (pc' := 310) (v := (0 : Int32)) at_309 rfl rfl ?_
        refine Wlk.istore (pc' := 312) (Ls' := #[.val (.long p1), .second, .val (.long p2), .second, .val (.long p3), .second, .val (.int p4), .val (.int (9 : Int32)), .val (.int c217), .val (.int c224), .val (.int c231), .val (.int c238), .val (.int c245), .val (.int c252), .val (.int c259), .val (.int c266), .val (.int c273), .val (.int c280), .val (.ref b738), .val (.int (0 : Int32)), .unset]) at_310 rfl rfl rfl ?_
        refine Wlk.iload (pc' := 314) (v := (0 : Int32)) at_312 rfl rfl ?_
        refine Wlk.ifF (pc' := 317) at_314 (show (0 : Int32) = (0 : Int32) from by decide) rfl ?_
        refine Wlk.iconst (pc' := 318) (v := (1 : Int32)) at_317 rfl rfl ?_
        refine Wlk.goto (pc' := 322) at_318 (by decide) (by decide) ?_
        refine Wlk.istore (pc' := 324) (Ls' := #[.val (.long p1), .second, .val (.long p2), .second, .val (.long p3), .second, .val (.int p4), .val (.int (9 : Int32)), .val (.int c217), .val (.int c224), .val (.int c231), .val (.int c238), .val (.int c245), .val (.int c252), .val (.int c259), .val (.int c266), .val (.int c273), .val (.int c280), .val (.ref b738), .val (.int (0 : Int32)), .val (.int (1 : Int32))]) at_322 rfl rfl rfl ?_
        refine Wlk.newO (pc' := 327) (C := "java/lang/String") at_324 (hw _ (List.mem_of_getElem? (i := 7) rfl)) (hw _ (List.mem_of_getElem? (i := 8) rfl)) (hw _ (List.mem_of_getElem? (i := 9) rfl)) (by decide) (by decide) rfl (fun b810 h811 le812 g813 E814 A815 D816 => ?_)
        have F817 : Fld Z h811 b810 "java/lang/String" "coder" "B" (.int (0 : Int32)) := D816 (Or.inr (hw _ (List.mem_of_getElem? (i := 33) rfl))) (ty := .byte) (by decide)
        have F818 : Fld Z h811 b810 "java/lang/String" "value" "[B" .null := D816 (Or.inr (hw _ (List.mem_of_getElem? (i := 35) rfl))) (ty := (.array .byte)) (by decide)
        refine Wlk.dup (pc' := 328) at_327 rfl rfl ?_
        refine Wlk.aload (pc' := 330) (v := (.ref b738)) at_328 rfl rfl rfl ?_
        have hR819 : ∀ c ∈ [c217, c224, c231, c238, c245, c252, c259, c266, c273], ¬ c < 0 ∧ ¬ (65535 : Int32) < c := by
          intro c hc
          simp only [List.mem_cons, List.not_mem_nil, or_false] at hc
          rcases hc with hc | hc | hc | hc | hc | hc | hc | hc | hc
          · rw [hc]; exact ⟨n218, n219⟩
          · rw [hc]; exact ⟨n225, n226⟩
          · rw [hc]; exact ⟨n232, n233⟩
          · rw [hc]; exact ⟨n239, n240⟩
          · rw [hc]; exact ⟨n246, n247⟩
          · rw [hc]; exact ⟨n253, n254⟩
          · rw [hc]; exact ⟨n260, n261⟩
          · rw [hc]; exact ⟨n267, n268⟩
          · rw [hc]; exact ⟨n274, n275⟩
        have c820 := (A781.ext E814)
        refine Wlk.callC (pc' := 333) (a := b810) (z := (⟨"java/lang/String", "<init>", "([C)V"⟩ : MethodName)) (argsL := [(.ref b738)]) (st := [(.ref b810)]) (W := 1) at_330 (hw _ (List.mem_of_getElem? (i := 10) rfl)) (hw _ (List.mem_of_getElem? (i := 11) rfl)) (hw _ (List.mem_of_getElem? (i := 9) rfl)) (hw _ (List.mem_of_getElem? (i := 12) rfl)) (by decide) rfl pd_11 rfl (st_ini1A hw b810 b738 .null (.int (0 : Int32)) kc740 [c217, c224, c231, c238, c245, c252, c259, c266, c273] (.int 0) zc h811 q0_Sta q1_Sta q2_Sta A815 F818 F817 g813 c820 O2 P3 (by first | exact hn | exact Nat.le_of_ble_eq_true rfl) (by first | exact hp | exact Nat.le_of_ble_eq_true rfl) hR819) (by decide) rfl (by decide) (by decide) (by decide) rfl rfl (fun v821 h822 J823 q824 => ?_)
        obtain ⟨t825, rfl, le826, g827, K828, n829⟩ := q824
        show Wlk _ _ _ _ _ _ _ _ _ h822 4 43 333 #[.val (.long p1), .second, .val (.long p2), .second, .val (.long p3), .second, .val (.int p4), .val (.int (9 : Int32)), .val (.int c217), .val (.int c224), .val (.int c231), .val (.int c238), .val (.int c245), .val (.int c252), .val (.int c259), .val (.int c266), .val (.int c273), .val (.int c280), .val (.ref b738), .val (.int (0 : Int32)), .val (.int (1 : Int32))] [(.ref b810)]
        refine Wlk.callSw (pc' := 336) (z := (⟨"com/example/wenyi/wenyi/request/YonyouSignature", "isSigned", "(Ljava/lang/String;)Z"⟩ : MethodName)) (argsL := [(.ref b810)]) (st := []) (W := 0) at_333 (hw _ (List.mem_of_getElem? (i := 36) rfl)) (hw _ (List.mem_of_getElem? (i := 37) rfl)) (hw _ (List.mem_of_getElem? (i := 38) rfl)) (hw _ (List.mem_of_getElem? (i := 39) rfl)) (by decide) pd_12 rfl (rm_sgn hw b810 t825 [c217, c224, c231, c238, c245, c252, c259, c266, c273] zc [] [] h822 n829 O2 P3 wS hcw hh_25 (by decide) (fun x hx => (hR819 x hx).1) (Nat.le_of_ble_eq_true rfl)) (by decide) rfl (by decide) (by decide) (by decide) rfl rfl (fun v830 h831 J832 q833 => ?_)
        obtain ⟨c834, rfl, K835, rfl⟩ := q833
        show Wlk _ _ _ _ _ _ _ _ _ h831 6 83 336 #[.val (.long p1), .second, .val (.long p2), .second, .val (.long p3), .second, .val (.int p4), .val (.int (9 : Int32)), .val (.int c217), .val (.int c224), .val (.int c231), .val (.int c238), .val (.int c245), .val (.int c252), .val (.int c259), .val (.int c266), .val (.int c273), .val (.int c280), .val (.ref b738), .val (.int (0 : Int32)), .val (.int (1 : Int32))] [(.int (if [c217, c224, c231, c238, c245, c252, c259, c266, c273] = sigL then (0 : Int32) else 1))]
        refine Wlk.iload (pc' := 338) (v := (1 : Int32)) at_336 rfl rfl ?_
        refine Wlk.icF (pc' := 341) at_338 (show (if [c217, c224, c231, c238, c245, c252, c259, c266, c273] = sigL then (0 : Int32) else 1) = (1 : Int32) from (if_neg (fun (q : [c217, c224, c231, c238, c245, c252, c259, c266, c273] = sigL) => hc809 (congrArg (fun l : List Int32 => l.getD 1 0) q)))) rfl ?_
        refine Wlk.iconst (pc' := 342) (v := (1 : Int32)) at_341 rfl rfl ?_
        refine Wlk.goto (pc' := 346) at_342 (by decide) (by decide) ?_
        refine Wlk.ireturnN (t := .boolean) at_346 rfl (by simp) (by decide) (by decide) ?_
        exact rfl
      · skip
        refine Wlk.iload (pc' := 258) (v := c231) at_256 rfl rfl ?_
        refine Wlk.bipush (pc' := 260) (v := (103 : Int32)) at_258 (by decide) rfl ?_
        refine Wlk.ic_ (pcT := 309) (pcF := 263) at_260 (by decide) (by decide) rfl (fun (hc836 : ¬ (c231 = (103 : Int32))) => ?_) (fun (hc836 : c231 = (103 : Int32)) => ?_)
        · skip
          refine Wlk.iconst (pc' := 310) (v := (0 : Int32)) at_309 rfl rfl ?_
          refine Wlk.istore (pc' := 312) (Ls' := #[.val (.long p1), .second, .val (.long p2), .second, .val (.long p3), .second, .val (.int p4), .val (.int (9 : Int32)), .val (.int c217), .val (.int c224), .val (.int c231), .val (.int c238), .val (.int c245), .val (.int c252), .val (.int c259), .val (.int c266), .val (.int c273), .val (.int c280), .val (.ref b738), .val (.int (0 : Int32)), .unset]) at_310 rfl rfl rfl ?_
          refine Wlk.iload (pc' := 314) (v := (0 : Int32)) at_312 rfl rfl ?_
          refine Wlk.ifF (pc' := 317) at_314 (show (0 : Int32) = (0 : Int32) from by decide) rfl ?_
          refine Wlk.iconst (pc' := 318) (v := (1 : Int32)) at_317 rfl rfl ?_
          refine Wlk.goto (pc' := 322) at_318 (by decide) (by decide) ?_
          refine Wlk.istore (pc' := 324) (Ls' := #[.val (.long p1), .second, .val (.long p2), .second, .val (.long p3), .second, .val (.int p4), .val (.int (9 : Int32)), .val (.int c217), .val (.int c224), .val (.int c231), .val (.int c238), .val (.int c245), .val (.int c252), .val (.int c259), .val (.int c266), .val (.int c273), .val (.int c280), .val (.ref b738), .val (.int (0 : Int32)), .val (.int (1 : Int32))]) at_322 rfl rfl rfl ?_
          refine Wlk.newO (pc' := 327) (C := "java/lang/String") at_324 (hw _ (List.mem_of_getElem? (i := 7) rfl)) (hw _ (List.mem_of_getElem? (i := 8) rfl)) (hw _ (List.mem_of_getElem? (i := 9) rfl)) (by decide) (by decide) rfl (fun b837 h838 le839 g840 E841 A842 D843 => ?_)
          have F844 : Fld Z h838 b837 "java/lang/String" "coder" "B" (.int (0 : Int32)) := D843 (Or.inr (hw _ (List.mem_of_getElem? (i := 33) rfl))) (ty := .byte) (by decide)
          have F845 : Fld Z h838 b837 "java/lang/String" "value" "[B" .null := D843 (Or.inr (hw _ (List.mem_of_getElem? (i := 35) rfl))) (ty := (.array .byte)) (by decide)
          refine Wlk.dup (pc' := 328) at_327 rfl rfl ?_
          refine Wlk.aload (pc' := 330) (v := (.ref b738)) at_328 rfl rfl rfl ?_
          have hR846 : ∀ c ∈ [c217, c224, c231, c238, c245, c252, c259, c266, c273], ¬ c < 0 ∧ ¬ (65535 : Int32) < c := by
            intro c hc
            simp only [List.mem_cons, List.not_mem_nil, or_false] at hc
            rcases hc with hc | hc | hc | hc | hc | hc | hc | hc | hc
            · rw [hc]; exact ⟨n218, n219⟩
            · rw [hc]; exact ⟨n225, n226⟩
            · rw [hc]; exact ⟨n232, n233⟩
            · rw [hc]; exact ⟨n239, n240⟩
            · rw [hc]; exact ⟨n246, n247⟩
            · rw [hc]; exact ⟨n253, n254⟩
            · rw [hc]; exact ⟨n260, n261⟩
            · rw [hc]; exact ⟨n267, n268⟩
            · rw [hc]; exact ⟨n274, n275⟩
          have c847 := (A781.ext E841)
          refine Wlk.callC (pc' := 333) (a := b837) (z := (⟨"java/lang/String", "<init>", "([C)V"⟩ : MethodName)) (argsL := [(.ref b738)]) (st := [(.ref b837)]) (W := 1) at_330 (hw _ (List.mem_of_getElem? (i := 10) rfl)) (hw _ (List.mem_of_getElem? (i := 11) rfl)) (hw _ (List.mem_of_getElem? (i := 9) rfl)) (hw _ (List.mem_of_getElem? (i := 12) rfl)) (by decide) rfl pd_11 rfl (st_ini1A hw b837 b738 .null (.int (0 : Int32)) kc740 [c217, c224, c231, c238, c245, c252, c259, c266, c273] (.int 0) zc h838 q0_Sta q1_Sta q2_Sta A842 F845 F844 g840 c847 O2 P3 (by first | exact hn | exact Nat.le_of_ble_eq_true rfl) (by first | exact hp | exact Nat.le_of_ble_eq_true rfl) hR846) (by decide) rfl (by decide) (by decide) (by decide) rfl rfl (fun v848 h849 J850 q851 => ?_)
          obtain ⟨t852, rfl, le853, g854, K855, n856⟩ := q851
          show Wlk _ _ _ _ _ _ _ _ _ h849 4 43 333 #[.val (.long p1), .second, .val (.long p2), .second, .val (.long p3), .second, .val (.int p4), .val (.int (9 : Int32)), .val (.int c217), .val (.int c224), .val (.int c231), .val (.int c238), .val (.int c245), .val (.int c252), .val (.int c259), .val (.int c266), .val (.int c273), .val (.int c280), .val (.ref b738), .val (.int (0 : Int32)), .val (.int (1 : Int32))] [(.ref b837)]
          refine Wlk.callSw (pc' := 336) (z := (⟨"com/example/wenyi/wenyi/request/YonyouSignature", "isSigned", "(Ljava/lang/String;)Z"⟩ : MethodName)) (argsL := [(.ref b837)]) (st := []) (W := 0) at_333 (hw _ (List.mem_of_getElem? (i := 36) rfl)) (hw _ (List.mem_of_getElem? (i := 37) rfl)) (hw _ (List.mem_of_getElem? (i := 38) rfl)) (hw _ (List.mem_of_getElem? (i := 39) rfl)) (by decide) pd_12 rfl (rm_sgn hw b837 t852 [c217, c224, c231, c238, c245, c252, c259, c266, c273] zc [] [] h849 n856 O2 P3 wS hcw hh_25 (by decide) (fun x hx => (hR846 x hx).1) (Nat.le_of_ble_eq_true rfl)) (by decide) rfl (by decide) (by decide) (by decide) rfl rfl (fun v857 h858 J859 q860 => ?_)
          obtain ⟨c861, rfl, K862, rfl⟩ := q860
          show Wlk _ _ _ _ _ _ _ _ _ h858 6 83 336 #[.val (.long p1), .second, .val (.long p2), .second, .val (.long p3), .second, .val (.int p4), .val (.int (9 : Int32)), .val (.int c217), .val (.int c224), .val (.int c231), .val (.int c238), .val (.int c245), .val (.int c252), .val (.int c259), .val (.int c266), .val (.int c273), .val (.int c280), .val (.ref b738), .val (.int (0 : Int32)), .val (.int (1 : Int32))] [(.int (if [c217, c224, c231, c238, c245, c252, c259, c266, c273] = sigL then (0 : Int32) else 1))]
          refine Wlk.iload (pc' := 338) (v := (1 : Int32)) at_336 rfl rfl ?_
          refine Wlk.icF (pc' := 341) at_338 (show (if [c217, c224, c231, c238, c245, c252, c259, c266, c273] = sigL then (0 : Int32) else 1) = (1 : Int32) from (if_neg (fun (q : [c217, c224, c231, c238, c245, c252, c259, c266, c273] = sigL) => hc836 (congrArg (fun l : List Int32 => l.getD 2 0) q)))) rfl ?_
          refine Wlk.iconst (pc' := 342) (v := (1 : Int32)) at_341 rfl rfl ?_
          refine Wlk.goto (pc' := 346) at_342 (by decide) (by decide) ?_
          refine Wlk.ireturnN (t := .boolean) at_346 rfl (by simp) (by decide) (by decide) ?_
          exact rfl
        · skip
          refine Wlk.iload (pc' := 265) (v := c238) at_263 rfl rfl ?_
          refine Wlk.bipush (pc' := 267) (v := (110 : Int32)) at_265 (by decide) rfl ?_
          refine Wlk.ic_ (pcT := 309) (pcF := 270) at_267 (by decide) (by decide) rfl (fun (hc863 : ¬ (c238 = (110 : Int32))) => ?_) (fun (hc863 : c238 = (110 : Int32)) => ?_)
          · skip
            refine Wlk.iconst (pc' := 310) (v := (0 : Int32)) at_309 rfl rfl ?_
            refine Wlk.istore (pc' := 312) (Ls' := #[.val (.long p1), .second, .val (.long p2), .second, .val (.long p3), .second, .val (.int p4), .val (.int (9 : Int32)), .val (.int c217), .val (.int c224), .val (.int c231), .val (.int c238), .val (.int c245), .val (.int c252), .val (.int c259), .val (.int c266), .val (.int c273), .val (.int c280), .val (.ref b738), .val (.int (0 : Int32)), .unset]) at_310 rfl rfl rfl ?_
            refine Wlk.iload (pc' := 314) (v := (0 : Int32)) at_312 rfl rfl ?_
            refine Wlk.ifF (pc' := 317) at_314 (show (0 : Int32) = (0 : Int32) from by decide) rfl ?_
            refine Wlk.iconst (pc' := 318) (v := (1 : Int32)) at_317 rfl rfl ?_
            refine Wlk.goto (pc' := 322) at_318 (by decide) (by decide) ?_
            refine Wlk.istore (pc' := 324) (Ls' := #[.val (.long p1), .second, .val (.long p2), .second, .val (.long p3), .second, .val (.int p4), .val (.int (9 : Int32)), .val (.int c217), .val (.int c224), .val (.int c231), .val (.int c238), .val (.int c245), .val (.int c252), .val (.int c259), .val (.int c266), .val (.int c273), .val (.int c280), .val (.ref b738), .val (.int (0 : Int32)), .val (.int (1 : Int32))]) at_322 rfl rfl rfl ?_
            refine Wlk.newO (pc' := 327) (C := "java/lang/String") at_324 (hw _ (List.mem_of_getElem? (i := 7) rfl)) (hw _ (List.mem_of_getElem? (i := 8) rfl)) (hw _ (List.mem_of_getElem? (i := 9) rfl)) (by decide) (by decide) rfl (fun b864 h865 le866 g867 E868 A869 D870 => ?_)
            have F871 : Fld Z h865 b864 "java/lang/String" "coder" "B" (.int (0 : Int32)) := D870 (Or.inr (hw _ (List.mem_of_getElem? (i := 33) rfl))) (ty := .byte) (by decide)
            have F872 : Fld Z h865 b864 "java/lang/String" "value" "[B" .null := D870 (Or.inr (hw _ (List.mem_of_getElem? (i := 35) rfl))) (ty := (.array .byte)) (by decide)
            refine Wlk.dup (pc' := 328) at_327 rfl rfl ?_
            refine Wlk.aload (pc' := 330) (v := (.ref b738)) at_328 rfl rfl rfl ?_
            have hR873 : ∀ c ∈ [c217, c224, c231, c238, c245, c252, c259, c266, c273], ¬ c < 0 ∧ ¬ (65535 : Int32) < c := by
              intro c hc
              simp only [List.mem_cons, List.not_mem_nil, or_false] at hc
              rcases hc with hc | hc | hc | hc | hc | hc | hc | hc | hc
              · rw [hc]; exact ⟨n218, n219⟩
              · rw [hc]; exact ⟨n225, n226⟩
              · rw [hc]; exact ⟨n232, n233⟩
              · rw [hc]; exact ⟨n239, n240⟩
              · rw [hc]; exact ⟨n246, n247⟩
              · rw [hc]; exact ⟨n253, n254⟩
              · rw [hc]; exact ⟨n260, n261⟩
              · rw [hc]; exact ⟨n267, n268⟩
              · rw [hc]; exact ⟨n274, n275⟩
            have c874 := (A781.ext E868)
            refine Wlk.callC (pc' := 333) (a := b864) (z := (⟨"java/lang/String", "<init>", "([C)V"⟩ : MethodName)) (argsL := [(.ref b738)]) (st := [(.ref b864)]) (W := 1) at_330 (hw _ (List.mem_of_getElem? (i := 10) rfl)) (hw _ (List.mem_of_getElem? (i := 11) rfl)) (hw _ (List.mem_of_getElem? (i := 9) rfl)) (hw _ (List.mem_of_getElem? (i := 12) rfl)) (by decide) rfl pd_11 rfl (st_ini1A hw b864 b738 .null (.int (0 : Int32)) kc740 [c217, c224, c231, c238, c245, c252, c259, c266, c273] (.int 0) zc h865 q0_Sta q1_Sta q2_Sta A869 F872 F871 g867 c874 O2 P3 (by first | exact hn | exact Nat.le_of_ble_eq_true rfl) (by first | exact hp | exact Nat.le_of_ble_eq_true rfl) hR873) (by decide) rfl (by decide) (by decide) (by decide) rfl rfl (fun v875 h876 J877 q878 => ?_)
            obtain ⟨t879, rfl, le880, g881, K882, n883⟩ := q878
            show Wlk _ _ _ _ _ _ _ _ _ h876 4 43 333 #[.val (.long p1), .second, .val (.long p2), .second, .val (.long p3), .second, .val (.int p4), .val (.int (9 : Int32)), .val (.int c217), .val (.int c224), .val (.int c231), .val (.int c238), .val (.int c245), .val (.int c252), .val (.int c259), .val (.int c266), .val (.int c273), .val (.int c280), .val (.ref b738), .val (.int (0 : Int32)), .val (.int (1 : Int32))] [(.ref b864)]
            refine Wlk.callSw (pc' := 336) (z := (⟨"com/example/wenyi/wenyi/request/YonyouSignature", "isSigned", "(Ljava/lang/String;)Z"⟩ : MethodName)) (argsL := [(.ref b864)]) (st := []) (W := 0) at_333 (hw _ (List.mem_of_getElem? (i := 36) rfl)) (hw _ (List.mem_of_getElem? (i := 37) rfl)) (hw _ (List.mem_of_getElem? (i := 38) rfl)) (hw _ (List.mem_of_getElem? (i := 39) rfl)) (by decide) pd_12 rfl (rm_sgn hw b864 t879 [c217, c224, c231, c238, c245, c252, c259, c266, c273] zc [] [] h876 n883 O2 P3 wS hcw hh_25 (by decide) (fun x hx => (hR873 x hx).1) (Nat.le_of_ble_eq_true rfl)) (by decide) rfl (by decide) (by decide) (by decide) rfl rfl (fun v884 h885 J886 q887 => ?_)
            obtain ⟨c888, rfl, K889, rfl⟩ := q887
            show Wlk _ _ _ _ _ _ _ _ _ h885 6 83 336 #[.val (.long p1), .second, .val (.long p2), .second, .val (.long p3), .second, .val (.int p4), .val (.int (9 : Int32)), .val (.int c217), .val (.int c224), .val (.int c231), .val (.int c238), .val (.int c245), .val (.int c252), .val (.int c259), .val (.int c266), .val (.int c273), .val (.int c280), .val (.ref b738), .val (.int (0 : Int32)), .val (.int (1 : Int32))] [(.int (if [c217, c224, c231, c238, c245, c252, c259, c266, c273] = sigL then (0 : Int32) else 1))]
            refine Wlk.iload (pc' := 338) (v := (1 : Int32)) at_336 rfl rfl ?_
            refine Wlk.icF (pc' := 341) at_338 (show (if [c217, c224, c231, c238, c245, c252, c259, c266, c273] = sigL then (0 : Int32) else 1) = (1 : Int32) from (if_neg (fun (q : [c217, c224, c231, c238, c245, c252, c259, c266, c273] = sigL) => hc863 (congrArg (fun l : List Int32 => l.getD 3 0) q)))) rfl ?_
            refine Wlk.iconst (pc' := 342) (v := (1 : Int32)) at_341 rfl rfl ?_
            refine Wlk.goto (pc' := 346) at_342 (by decide) (by decide) ?_
            refine Wlk.ireturnN (t := .boolean) at_346 rfl (by simp) (by decide) (by decide) ?_
            exact rfl
          · skip
            refine Wlk.iload (pc' := 272) (v := c245) at_270 rfl rfl ?_
            refine Wlk.bipush (pc' := 274) (v := (97 : Int32)) at_272 (by decide) rfl ?_
            refine Wlk.ic_ (pcT := 309) (pcF := 277) at_274 (by decide) (by decide) rfl (fun (hc890 : ¬ (c245 = (97 : Int32))) => ?_) (fun (hc890 : c245 = (97 : Int32)) => ?_)
            · skip
              refine Wlk.iconst (pc' := 310) (v := (0 : Int32)) at_309 rfl rfl ?_
              refine Wlk.istore (pc' := 312) (Ls' := #[.val (.long p1), .second, .val (.long p2), .second, .val (.long p3), .second, .val (.int p4), .val (.int (9 : Int32)), .val (.int c217), .val (.int c224), .val (.int c231), .val (.int c238), .val (.int c245), .val (.int c252), .val (.int c259), .val (.int c266), .val (.int c273), .val (.int c280), .val (.ref b738), .val (.int (0 : Int32)), .unset]) at_310 rfl rfl rfl ?_
              refine Wlk.iload (pc' := 314) (v := (0 : Int32)) at_312 rfl rfl ?_
              refine Wlk.ifF (pc' := 317) at_314 (show (0 : Int32) = (0 : Int32) from by decide) rfl ?_
              refine Wlk.iconst (pc' := 318) (v := (1 : Int32)) at_317 rfl rfl ?_
              refine Wlk.goto (pc' := 322) at_318 (by decide) (by decide) ?_
              refine Wlk.istore (pc' := 324) (Ls' := #[.val (.long p1), .second, .val (.long p2), .second, .val (.long p3), .second, .val (.int p4), .val (.int (9 : Int32)), .val (.int c217), .val (.int c224), .val (.int c231), .val (.int c238), .val (.int c245), .val (.int c252), .val (.int c259), .val (.int c266), .val (.int c273), .val (.int c280), .val (.ref b738), .val (.int (0 : Int32)), .val (.int (1 : Int32))]) at_322 rfl rfl rfl ?_
              refine Wlk.newO (pc' := 327) (C := "java/lang/String") at_324 (hw _ (List.mem_of_getElem? (i := 7) rfl)) (hw _ (List.mem_of_getElem? (i := 8) rfl)) (hw _ (List.mem_of_getElem? (i := 9) rfl)) (by decide) (by decide) rfl (fun b891 h892 le893 g894 E895 A896 D897 => ?_)
              have F898 : Fld Z h892 b891 "java/lang/String" "coder" "B" (.int (0 : Int32)) := D897 (Or.inr (hw _ (List.mem_of_getElem? (i := 33) rfl))) (ty := .byte) (by decide)
              have F899 : Fld Z h892 b891 "java/lang/String" "value" "[B" .null := D897 (Or.inr (hw _ (List.mem_of_getElem? (i := 35) rfl))) (ty := (.array .byte)) (by decide)
              refine Wlk.dup (pc' := 328) at_327 rfl rfl ?_
              refine Wlk.aload (pc' := 330) (v := (.ref b738)) at_328 rfl rfl rfl ?_
              have hR900 : ∀ c ∈ [c217, c224, c231, c238, c245, c252, c259, c266, c273], ¬ c < 0 ∧ ¬ (65535 : Int32) < c := by
                intro c hc
                simp only [List.mem_cons, List.not_mem_nil, or_false] at hc
                rcases hc with hc | hc | hc | hc | hc | hc | hc | hc | hc
                · rw [hc]; exact ⟨n218, n219⟩
                · rw [hc]; exact ⟨n225, n226⟩
                · rw [hc]; exact ⟨n232, n233⟩
                · rw [hc]; exact ⟨n239, n240⟩
                · rw [hc]; exact ⟨n246, n247⟩
                · rw [hc]; exact ⟨n253, n254⟩
                · rw [hc]; exact ⟨n260, n261⟩
                · rw [hc]; exact ⟨n267, n268⟩
                · rw [hc]; exact ⟨n274, n275⟩
              have c901 := (A781.ext E895)
              refine Wlk.callC (pc' := 333) (a := b891) (z := (⟨"java/lang/String", "<init>", "([C)V"⟩ : MethodName)) (argsL := [(.ref b738)]) (st := [(.ref b891)]) (W := 1) at_330 (hw _ (List.mem_of_getElem? (i := 10) rfl)) (hw _ (List.mem_of_getElem? (i := 11) rfl)) (hw _ (List.mem_of_getElem? (i := 9) rfl)) (hw _ (List.mem_of_getElem? (i := 12) rfl)) (by decide) rfl pd_11 rfl (st_ini1A hw b891 b738 .null (.int (0 : Int32)) kc740 [c217, c224, c231, c238, c245, c252, c259, c266, c273] (.int 0) zc h892 q0_Sta q1_Sta q2_Sta A896 F899 F898 g894 c901 O2 P3 (by first | exact hn | exact Nat.le_of_ble_eq_true rfl) (by first | exact hp | exact Nat.le_of_ble_eq_true rfl) hR900) (by decide) rfl (by decide) (by decide) (by decide) rfl rfl (fun v902 h903 J904 q905 => ?_)
              obtain ⟨t906, rfl, le907, g908, K909, n910⟩ := q905
              show Wlk _ _ _ _ _ _ _ _ _ h903 4 43 333 #[.val (.long p1), .second, .val (.long p2), .second, .val (.long p3), .second, .val (.int p4), .val (.int (9 : Int32)), .val (.int c217), .val (.int c224), .val (.int c231), .val (.int c238), .val (.int c245), .val (.int c252), .val (.int c259), .val (.int c266), .val (.int c273), .val (.int c280), .val (.ref b738), .val (.int (0 : Int32)), .val (.int (1 : Int32))] [(.ref b891)]
              refine Wlk.callSw (pc' := 336) (z := (⟨"com/example/wenyi/wenyi/request/YonyouSignature", "isSigned", "(Ljava/lang/String;)Z"⟩ : MethodName)) (argsL := [(.ref b891)]) (st := []) (W := 0) at_333 (hw _ (List.mem_of_getElem? (i := 36) rfl)) (hw _ (List.mem_of_getElem? (i := 37) rfl)) (hw _ (List.mem_of_getElem? (i := 38) rfl)) (hw _ (List.mem_of_getElem? (i := 39) rfl)) (by decide) pd_12 rfl (rm_sgn hw b891 t906 [c217, c224, c231, c238, c245, c252, c259, c266, c273] zc [] [] h903 n910 O2 P3 wS hcw hh_25 (by decide) (fun x hx => (hR900 x hx).1) (Nat.le_of_ble_eq_true rfl)) (by decide) rfl (by decide) (by decide) (by decide) rfl rfl (fun v911 h912 J913 q914 => ?_)
              obtain ⟨c915, rfl, K916, rfl⟩ := q914
              show Wlk _ _ _ _ _ _ _ _ _ h912 6 83 336 #[.val (.long p1), .second, .val (.long p2), .second, .val (.long p3), .second, .val (.int p4), .val (.int (9 : Int32)), .val (.int c217), .val (.int c224), .val (.int c231), .val (.int c238), .val (.int c245), .val (.int c252), .val (.int c259), .val (.int c266), .val (.int c273), .val (.int c280), .val (.ref b738), .val (.int (0 : Int32)), .val (.int (1 : Int32))] [(.int (if [c217, c224, c231, c238, c245, c252, c259, c266, c273] = sigL then (0 : Int32) else 1))]
              refine Wlk.iload (pc' := 338) (v := (1 : Int32)) at_336 rfl rfl ?_
              refine Wlk.icF (pc' := 341) at_338 (show (if [c217, c224, c231, c238, c245, c252, c259, c266, c273] = sigL then (0 : Int32) else 1) = (1 : Int32) from (if_neg (fun (q : [c217, c224, c231, c238, c245, c252, c259, c266, c273] = sigL) => hc890 (congrArg (fun l : List Int32 => l.getD 4 0) q)))) rfl ?_
              refine Wlk.iconst (pc' := 342) (v := (1 : Int32)) at_341 rfl rfl ?_
              refine Wlk.goto (pc' := 346) at_342 (by decide) (by decide) ?_
              refine Wlk.ireturnN (t := .boolean) at_346 rfl (by simp) (by decide) (by decide) ?_
              exact rfl
            · skip
              refine Wlk.iload (pc' := 279) (v := c252) at_277 rfl rfl ?_
              refine Wlk.bipush (pc' := 281) (v := (116 : Int32)) at_279 (by decide) rfl ?_
              refine Wlk.ic_ (pcT := 309) (pcF := 284) at_281 (by decide) (by decide) rfl (fun (hc917 : ¬ (c252 = (116 : Int32))) => ?_) (fun (hc917 : c252 = (116 : Int32)) => ?_)
              · skip
                refine Wlk.iconst (pc' := 310) (v := (0 : Int32)) at_309 rfl rfl ?_
                refine Wlk.istore (pc' := 312) (Ls' := #[.val (.long p1), .second, .val (.long p2), .second, .val (.long p3), .second, .val (.int p4), .val (.int (9 : Int32)), .val (.int c217), .val (.int c224), .val (.int c231), .val (.int c238), .val (.int c245), .val (.int c252), .val (.int c259), .val (.int c266), .val (.int c273), .val (.int c280), .val (.ref b738), .val (.int (0 : Int32)), .unset]) at_310 rfl rfl rfl ?_
                refine Wlk.iload (pc' := 314) (v := (0 : Int32)) at_312 rfl rfl ?_
                refine Wlk.ifF (pc' := 317) at_314 (show (0 : Int32) = (0 : Int32) from by decide) rfl ?_
                refine Wlk.iconst (pc' := 318) (v := (1 : Int32)) at_317 rfl rfl ?_
                refine Wlk.goto (pc' := 322) at_318 (by decide) (by decide) ?_
                refine Wlk.istore (pc' := 324) (Ls' := #[.val (.long p1), .second, .val (.long p2), .second, .val (.long p3), .second, .val (.int p4), .val (.int (9 : Int32)), .val (.int c217), .val (.int c224), .val (.int c231), .val (.int c238), .val (.int c245), .val (.int c252), .val (.int c259), .val (.int c266), .val (.int c273), .val (.int c280), .val (.ref b738), .val (.int (0 : Int32)), .val (.int (1 : Int32))]) at_322 rfl rfl rfl ?_
                refine Wlk.newO (pc' := 327) (C := "java/lang/String") at_324 (hw _ (List.mem_of_getElem? (i := 7) rfl)) (hw _ (List.mem_of_getElem? (i := 8) rfl)) (hw _ (List.mem_of_getElem? (i := 9) rfl)) (by decide) (by decide) rfl (fun b918 h919 le920 g921 E922 A923 D924 => ?_)
                have F925 : Fld Z h919 b918 "java/lang/String" "coder" "B" (.int (0 : Int32)) := D924 (Or.inr (hw _ (List.mem_of_getElem? (i := 33) rfl))) (ty := .byte) (by decide)
                have F926 : Fld Z h919 b918 "java/lang/String" "value" "[B" .null := D924 (Or.inr (hw _ (List.mem_of_getElem? (i := 35) rfl))) (ty := (.array .byte)) (by decide)
                refine Wlk.dup (pc' := 328) at_327 rfl rfl ?_
                refine Wlk.aload (pc' := 330) (v := (.ref b738)) at_328 rfl rfl rfl ?_
                have hR927 : ∀ c ∈ [c217, c224, c231, c238, c245, c252, c259, c266, c273], ¬ c < 0 ∧ ¬ (65535 : Int32) < c := by
                  intro c hc
                  simp only [List.mem_cons, List.not_mem_nil, or_false] at hc
                  rcases hc with hc | hc | hc | hc | hc | hc | hc | hc | hc
                  · rw [hc]; exact ⟨n218, n219⟩
                  · rw [hc]; exact ⟨n225, n226⟩
                  · rw [hc]; exact ⟨n232, n233⟩
                  · rw [hc]; exact ⟨n239, n240⟩
                  · rw [hc]; exact ⟨n246, n247⟩
                  · rw [hc]; exact ⟨n253, n254⟩
                  · rw [hc]; exact ⟨n260, n261⟩
                  · rw [hc]; exact ⟨n267, n268⟩
                  · rw [hc]; exact ⟨n274, n275⟩
                have c928 := (A781.ext E922)
                refine Wlk.callC (pc' := 333) (a := b918) (z := (⟨"java/lang/String", "<init>", "([C)V"⟩ : MethodName)) (argsL := [(.ref b738)]) (st := [(.ref b918)]) (W := 1) at_330 (hw _ (List.mem_of_getElem? (i := 10) rfl)) (hw _ (List.mem_of_getElem? (i := 11) rfl)) (hw _ (List.mem_of_getElem? (i := 9) rfl)) (hw _ (List.mem_of_getElem? (i := 12) rfl)) (by decide) rfl pd_11 rfl (st_ini1A hw b918 b738 .null (.int (0 : Int32)) kc740 [c217, c224, c231, c238, c245, c252, c259, c266, c273] (.int 0) zc h919 q0_Sta q1_Sta q2_Sta A923 F926 F925 g921 c928 O2 P3 (by first | exact hn | exact Nat.le_of_ble_eq_true rfl) (by first | exact hp | exact Nat.le_of_ble_eq_true rfl) hR927) (by decide) rfl (by decide) (by decide) (by decide) rfl rfl (fun v929 h930 J931 q932 => ?_)
                obtain ⟨t933, rfl, le934, g935, K936, n937⟩ := q932
                show Wlk _ _ _ _ _ _ _ _ _ h930 4 43 333 #[.val (.long p1), .second, .val (.long p2), .second, .val (.long p3), .second, .val (.int p4), .val (.int (9 : Int32)), .val (.int c217), .val (.int c224), .val (.int c231), .val (.int c238), .val (.int c245), .val (.int c252), .val (.int c259), .val (.int c266), .val (.int c273), .val (.int c280), .val (.ref b738), .val (.int (0 : Int32)), .val (.int (1 : Int32))] [(.ref b918)]
                refine Wlk.callSw (pc' := 336) (z := (⟨"com/example/wenyi/wenyi/request/YonyouSignature", "isSigned", "(Ljava/lang/String;)Z"⟩ : MethodName)) (argsL := [(.ref b918)]) (st := []) (W := 0) at_333 (hw _ (List.mem_of_getElem? (i := 36) rfl)) (hw _ (List.mem_of_getElem? (i := 37) rfl)) (hw _ (List.mem_of_getElem? (i := 38) rfl)) (hw _ (List.mem_of_getElem? (i := 39) rfl)) (by decide) pd_12 rfl (rm_sgn hw b918 t933 [c217, c224, c231, c238, c245, c252, c259, c266, c273] zc [] [] h930 n937 O2 P3 wS hcw hh_25 (by decide) (fun x hx => (hR927 x hx).1) (Nat.le_of_ble_eq_true rfl)) (by decide) rfl (by decide) (by decide) (by decide) rfl rfl (fun v938 h939 J940 q941 => ?_)
                obtain ⟨c942, rfl, K943, rfl⟩ := q941
                show Wlk _ _ _ _ _ _ _ _ _ h939 6 83 336 #[.val (.long p1), .second, .val (.long p2), .second, .val (.long p3), .second, .val (.int p4), .val (.int (9 : Int32)), .val (.int c217), .val (.int c224), .val (.int c231), .val (.int c238), .val (.int c245), .val (.int c252), .val (.int c259), .val (.int c266), .val (.int c273), .val (.int c280), .val (.ref b738), .val (.int (0 : Int32)), .val (.int (1 : Int32))] [(.int (if [c217, c224, c231, c238, c245, c252, c259, c266, c273] = sigL then (0 : Int32) else 1))]
                refine Wlk.iload (pc' := 338) (v := (1 : Int32)) at_336 rfl rfl ?_
                refine Wlk.icF (pc' := 341) at_338 (show (if [c217, c224, c231, c238, c245, c252, c259, c266, c273] = sigL then (0 : Int32) else 1) = (1 : Int32) from (if_neg (fun (q : [c217, c224, c231, c238, c245, c252, c259, c266, c273] = sigL) => hc917 (congrArg (fun l : List Int32 => l.getD 5 0) q)))) rfl ?_
                refine Wlk.iconst (pc' := 342) (v := (1 : Int32)) at_341 rfl rfl ?_
                refine Wlk.goto (pc' := 346) at_342 (by decide) (by decide) ?_
                refine Wlk.ireturnN (t := .boolean) at_346 rfl (by simp) (by decide) (by decide) ?_
                exact rfl
              · skip
                refine Wlk.iload (pc' := 286) (v := c259) at_284 rfl rfl ?_
                refine Wlk.bipush (pc' := 288) (v := (117 : Int32)) at_286 (by decide) rfl ?_
                refine Wlk.ic_ (pcT := 309) (pcF := 291) at_288 (by decide) (by decide) rfl (fun (hc944 : ¬ (c259 = (117 : Int32))) => ?_) (fun (hc944 : c259 = (117 : Int32)) => ?_)
                · skip
                  refine Wlk.iconst (pc' := 310) (v := (0 : Int32)) at_309 rfl rfl ?_
                  refine Wlk.istore (pc' := 312) (Ls' := #[.val (.long p1), .second, .val (.long p2), .second, .val (.long p3), .second, .val (.int p4), .val (.int (9 : Int32)), .val (.int c217), .val (.int c224), .val (.int c231), .val (.int c238), .val (.int c245), .val (.int c252), .val (.int c259), .val (.int c266), .val (.int c273), .val (.int c280), .val (.ref b738), .val (.int (0 : Int32)), .unset]) at_310 rfl rfl rfl ?_
                  refine Wlk.iload (pc' := 314) (v := (0 : Int32)) at_312 rfl rfl ?_
                  refine Wlk.ifF (pc' := 317) at_314 (show (0 : Int32) = (0 : Int32) from by decide) rfl ?_
                  refine Wlk.iconst (pc' := 318) (v := (1 : Int32)) at_317 rfl rfl ?_
                  refine Wlk.goto (pc' := 322) at_318 (by decide) (by decide) ?_
                  refine Wlk.istore (pc' := 324) (Ls' := #[.val (.long p1), .second, .val (.long p2), .second, .val (.long p3), .second, .val (.int p4), .val (.int (9 : Int32)), .val (.int c217), .val (.int c224), .val (.int c231), .val (.int c238), .val (.int c245), .val (.int c252), .val (.int c259), .val (.int c266), .val (.int c273), .val (.int c280), .val (.ref b738), .val (.int (0 : Int32)), .val (.int (1 : Int32))]) at_322 rfl rfl rfl ?_
                  refine Wlk.newO (pc' := 327) (C := "java/lang/String") at_324 (hw _ (List.mem_of_getElem? (i := 7) rfl)) (hw _ (List.mem_of_getElem? (i := 8) rfl)) (hw _ (List.mem_of_getElem? (i := 9) rfl)) (by decide) (by decide) rfl (fun b945 h946 le947 g948 E949 A950 D951 => ?_)
                  have F952 : Fld Z h946 b945 "java/lang/String" "coder" "B" (.int (0 : Int32)) := D951 (Or.inr (hw _ (List.mem_of_getElem? (i := 33) rfl))) (ty := .byte) (by decide)
                  have F953 : Fld Z h946 b945 "java/lang/String" "value" "[B" .null := D951 (Or.inr (hw _ (List.mem_of_getElem? (i := 35) rfl))) (ty := (.array .byte)) (by decide)
                  refine Wlk.dup (pc' := 328) at_327 rfl rfl ?_
                  refine Wlk.aload (pc' := 330) (v := (.ref b738)) at_328 rfl rfl rfl ?_
                  have hR954 : ∀ c ∈ [c217, c224, c231, c238, c245, c252, c259, c266, c273], ¬ c < 0 ∧ ¬ (65535 : Int32) < c := by
                    intro c hc
                    simp only [List.mem_cons, List.not_mem_nil, or_false] at hc
                    rcases hc with hc | hc | hc | hc | hc | hc | hc | hc | hc
                    · rw [hc]; exact ⟨n218, n219⟩
                    · rw [hc]; exact ⟨n225, n226⟩
                    · rw [hc]; exact ⟨n232, n233⟩
                    · rw [hc]; exact ⟨n239, n240⟩
                    · rw [hc]; exact ⟨n246, n247⟩
                    · rw [hc]; exact ⟨n253, n254⟩
                    · rw [hc]; exact ⟨n260, n261⟩
                    · rw [hc]; exact ⟨n267, n268⟩
                    · rw [hc]; exact ⟨n274, n275⟩
                  have c955 := (A781.ext E949)
                  refine Wlk.callC (pc' := 333) (a := b945) (z := (⟨"java/lang/String", "<init>", "([C)V"⟩ : MethodName)) (argsL := [(.ref b738)]) (st := [(.ref b945)]) (W := 1) at_330 (hw _ (List.mem_of_getElem? (i := 10) rfl)) (hw _ (List.mem_of_getElem? (i := 11) rfl)) (hw _ (List.mem_of_getElem? (i := 9) rfl)) (hw _ (List.mem_of_getElem? (i := 12) rfl)) (by decide) rfl pd_11 rfl (st_ini1A hw b945 b738 .null (.int (0 : Int32)) kc740 [c217, c224, c231, c238, c245, c252, c259, c266, c273] (.int 0) zc h946 q0_Sta q1_Sta q2_Sta A950 F953 F952 g948 c955 O2 P3 (by first | exact hn | exact Nat.le_of_ble_eq_true rfl) (by first | exact hp | exact Nat.le_of_ble_eq_true rfl) hR954) (by decide) rfl (by decide) (by decide) (by decide) rfl rfl (fun v956 h957 J958 q959 => ?_)
                  obtain ⟨t960, rfl, le961, g962, K963, n964⟩ := q959
                  show Wlk _ _ _ _ _ _ _ _ _ h957 4 43 333 #[.val (.long p1), .second, .val (.long p2), .second, .val (.long p3), .second, .val (.int p4), .val (.int (9 : Int32)), .val (.int c217), .val (.int c224), .val (.int c231), .val (.int c238), .val (.int c245), .val (.int c252), .val (.int c259), .val (.int c266), .val (.int c273), .val (.int c280), .val (.ref b738), .val (.int (0 : Int32)), .val (.int (1 : Int32))] [(.ref b945)]
                  refine Wlk.callSw (pc' := 336) (z := (⟨"com/example/wenyi/wenyi/request/YonyouSignature", "isSigned", "(Ljava/lang/String;)Z"⟩ : MethodName)) (argsL := [(.ref b945)]) (st := []) (W := 0) at_333 (hw _ (List.mem_of_getElem? (i := 36) rfl)) (hw _ (List.mem_of_getElem? (i := 37) rfl)) (hw _ (List.mem_of_getElem? (i := 38) rfl)) (hw _ (List.mem_of_getElem? (i := 39) rfl)) (by decide) pd_12 rfl (rm_sgn hw b945 t960 [c217, c224, c231, c238, c245, c252, c259, c266, c273] zc [] [] h957 n964 O2 P3 wS hcw hh_25 (by decide) (fun x hx => (hR954 x hx).1) (Nat.le_of_ble_eq_true rfl)) (by decide) rfl (by decide) (by decide) (by decide) rfl rfl (fun v965 h966 J967 q968 => ?_)
                  obtain ⟨c969, rfl, K970, rfl⟩ := q968
                  show Wlk _ _ _ _ _ _ _ _ _ h966 6 83 336 #[.val (.long p1), .second, .val (.long p2), .second, .val (.long p3), .second, .val (.int p4), .val (.int (9 : Int32)), .val (.int c217), .val (.int c224), .val (.int c231), .val (.int c238), .val (.int c245), .val (.int c252), .val (.int c259), .val (.int c266), .val (.int c273), .val (.int c280), .val (.ref b738), .val (.int (0 : Int32)), .val (.int (1 : Int32))] [(.int (if [c217, c224, c231, c238, c245, c252, c259, c266, c273] = sigL then (0 : Int32) else 1))]
                  refine Wlk.iload (pc' := 338) (v := (1 : Int32)) at_336 rfl rfl ?_
                  refine Wlk.icF (pc' := 341) at_338 (show (if [c217, c224, c231, c238, c245, c252, c259, c266, c273] = sigL then (0 : Int32) else 1) = (1 : Int32) from (if_neg (fun (q : [c217, c224, c231, c238, c245, c252, c259, c266, c273] = sigL) => hc944 (congrArg (fun l : List Int32 => l.getD 6 0) q)))) rfl ?_
                  refine Wlk.iconst (pc' := 342) (v := (1 : Int32)) at_341 rfl rfl ?_
                  refine Wlk.goto (pc' := 346) at_342 (by decide) (by decide) ?_
                  refine Wlk.ireturnN (t := .boolean) at_346 rfl (by simp) (by decide) (by decide) ?_
                  exact rfl
                · skip
                  refine Wlk.iload (pc' := 293) (v := c266) at_291 rfl rfl ?_
                  refine Wlk.bipush (pc' := 295) (v := (114 : Int32)) at_293 (by decide) rfl ?_
                  refine Wlk.ic_ (pcT := 309) (pcF := 298) at_295 (by decide) (by decide) rfl (fun (hc971 : ¬ (c266 = (114 : Int32))) => ?_) (fun (hc971 : c266 = (114 : Int32)) => ?_)
                  · skip
                    refine Wlk.iconst (pc' := 310) (v := (0 : Int32)) at_309 rfl rfl ?_
                    refine Wlk.istore (pc' := 312) (Ls' := #[.val (.long p1), .second, .val (.long p2), .second, .val (.long p3), .second, .val (.int p4), .val (.int (9 : Int32)), .val (.int c217), .val (.int c224), .val (.int c231), .val (.int c238), .val (.int c245), .val (.int c252), .val (.int c259), .val (.int c266), .val (.int c273), .val (.int c280), .val (.ref b738), .val (.int (0 : Int32)), .unset]) at_310 rfl rfl rfl ?_
                    refine Wlk.iload (pc' := 314) (v := (0 : Int32)) at_312 rfl rfl ?_
                    refine Wlk.ifF (pc' := 317) at_314 (show (0 : Int32) = (0 : Int32) from by decide) rfl ?_
                    refine Wlk.iconst (pc' := 318) (v := (1 : Int32)) at_317 rfl rfl ?_
                    refine Wlk.goto (pc' := 322) at_318 (by decide) (by decide) ?_
                    refine Wlk.istore (pc' := 324) (Ls' := #[.val (.long p1), .second, .val (.long p2), .second, .val (.long p3), .second, .val (.int p4), .val (.int (9 : Int32)), .val (.int c217), .val (.int c224), .val (.int c231), .val (.int c238), .val (.int c245), .val (.int c252), .val (.int c259), .val (.int c266), .val (.int c273), .val (.int c280), .val (.ref b738), .val (.int (0 : Int32)), .val (.int (1 : Int32))]) at_322 rfl rfl rfl ?_
                    refine Wlk.newO (pc' := 327) (C := "java/lang/String") at_324 (hw _ (List.mem_of_getElem? (i := 7) rfl)) (hw _ (List.mem_of_getElem? (i := 8) rfl)) (hw _ (List.mem_of_getElem? (i := 9) rfl)) (by decide) (by decide) rfl (fun b972 h973 le974 g975 E976 A977 D978 => ?_)
                    have F979 : Fld Z h973 b972 "java/lang/String" "coder" "B" (.int (0 : Int32)) := D978 (Or.inr (hw _ (List.mem_of_getElem? (i := 33) rfl))) (ty := .byte) (by decide)
                    have F980 : Fld Z h973 b972 "java/lang/String" "value" "[B" .null := D978 (Or.inr (hw _ (List.mem_of_getElem? (i := 35) rfl))) (ty := (.array .byte)) (by decide)
                    refine Wlk.dup (pc' := 328) at_327 rfl rfl ?_
                    refine Wlk.aload (pc' := 330) (v := (.ref b738)) at_328 rfl rfl rfl ?_
                    have hR981 : ∀ c ∈ [c217, c224, c231, c238, c245, c252, c259, c266, c273], ¬ c < 0 ∧ ¬ (65535 : Int32) < c := by
                      intro c hc
                      simp only [List.mem_cons, List.not_mem_nil, or_false] at hc
                      rcases hc with hc | hc | hc | hc | hc | hc | hc | hc | hc
                      · rw [hc]; exact ⟨n218, n219⟩
                      · rw [hc]; exact ⟨n225, n226⟩
                      · rw [hc]; exact ⟨n232, n233⟩
                      · rw [hc]; exact ⟨n239, n240⟩
                      · rw [hc]; exact ⟨n246, n247⟩
                      · rw [hc]; exact ⟨n253, n254⟩
                      · rw [hc]; exact ⟨n260, n261⟩
                      · rw [hc]; exact ⟨n267, n268⟩
                      · rw [hc]; exact ⟨n274, n275⟩
                    have c982 := (A781.ext E976)
                    refine Wlk.callC (pc' := 333) (a := b972) (z := (⟨"java/lang/String", "<init>", "([C)V"⟩ : MethodName)) (argsL := [(.ref b738)]) (st := [(.ref b972)]) (W := 1) at_330 (hw _ (List.mem_of_getElem? (i := 10) rfl)) (hw _ (List.mem_of_getElem? (i := 11) rfl)) (hw _ (List.mem_of_getElem? (i := 9) rfl)) (hw _ (List.mem_of_getElem? (i := 12) rfl)) (by decide) rfl pd_11 rfl (st_ini1A hw b972 b738 .null (.int (0 : Int32)) kc740 [c217, c224, c231, c238, c245, c252, c259, c266, c273] (.int 0) zc h973 q0_Sta q1_Sta q2_Sta A977 F980 F979 g975 c982 O2 P3 (by first | exact hn | exact Nat.le_of_ble_eq_true rfl) (by first | exact hp | exact Nat.le_of_ble_eq_true rfl) hR981) (by decide) rfl (by decide) (by decide) (by decide) rfl rfl (fun v983 h984 J985 q986 => ?_)
                    obtain ⟨t987, rfl, le988, g989, K990, n991⟩ := q986
                    show Wlk _ _ _ _ _ _ _ _ _ h984 4 43 333 #[.val (.long p1), .second, .val (.long p2), .second, .val (.long p3), .second, .val (.int p4), .val (.int (9 : Int32)), .val (.int c217), .val (.int c224), .val (.int c231), .val (.int c238), .val (.int c245), .val (.int c252), .val (.int c259), .val (.int c266), .val (.int c273), .val (.int c280), .val (.ref b738), .val (.int (0 : Int32)), .val (.int (1 : Int32))] [(.ref b972)]
                    refine Wlk.callSw (pc' := 336) (z := (⟨"com/example/wenyi/wenyi/request/YonyouSignature", "isSigned", "(Ljava/lang/String;)Z"⟩ : MethodName)) (argsL := [(.ref b972)]) (st := []) (W := 0) at_333 (hw _ (List.mem_of_getElem? (i := 36) rfl)) (hw _ (List.mem_of_getElem? (i := 37) rfl)) (hw _ (List.mem_of_getElem? (i := 38) rfl)) (hw _ (List.mem_of_getElem? (i := 39) rfl)) (by decide) pd_12 rfl (rm_sgn hw b972 t987 [c217, c224, c231, c238, c245, c252, c259, c266, c273] zc [] [] h984 n991 O2 P3 wS hcw hh_25 (by decide) (fun x hx => (hR981 x hx).1) (Nat.le_of_ble_eq_true rfl)) (by decide) rfl (by decide) (by decide) (by decide) rfl rfl (fun v992 h993 J994 q995 => ?_)
                    obtain ⟨c996, rfl, K997, rfl⟩ := q995
                    show Wlk _ _ _ _ _ _ _ _ _ h993 6 83 336 #[.val (.long p1), .second, .val (.long p2), .second, .val (.long p3), .second, .val (.int p4), .val (.int (9 : Int32)), .val (.int c217), .val (.int c224), .val (.int c231), .val (.int c238), .val (.int c245), .val (.int c252), .val (.int c259), .val (.int c266), .val (.int c273), .val (.int c280), .val (.ref b738), .val (.int (0 : Int32)), .val (.int (1 : Int32))] [(.int (if [c217, c224, c231, c238, c245, c252, c259, c266, c273] = sigL then (0 : Int32) else 1))]
                    refine Wlk.iload (pc' := 338) (v := (1 : Int32)) at_336 rfl rfl ?_
                    refine Wlk.icF (pc' := 341) at_338 (show (if [c217, c224, c231, c238, c245, c252, c259, c266, c273] = sigL then (0 : Int32) else 1) = (1 : Int32) from (if_neg (fun (q : [c217, c224, c231, c238, c245, c252, c259, c266, c273] = sigL) => hc971 (congrArg (fun l : List Int32 => l.getD 7 0) q)))) rfl ?_
                    refine Wlk.iconst (pc' := 342) (v := (1 : Int32)) at_341 rfl rfl ?_
                    refine Wlk.goto (pc' := 346) at_342 (by decide) (by decide) ?_
                    refine Wlk.ireturnN (t := .boolean) at_346 rfl (by simp) (by decide) (by decide) ?_
                    exact rfl
                  · skip
                    refine Wlk.iload (pc' := 300) (v := c273) at_298 rfl rfl ?_
                    refine Wlk.bipush (pc' := 302) (v := (101 : Int32)) at_300 (by decide) rfl ?_
                    refine Wlk.ic_ (pcT := 309) (pcF := 305) at_302 (by decide) (by decide) rfl (fun (hc998 : ¬ (c273 = (101 : Int32))) => ?_) (fun (hc998 : c273 = (101 : Int32)) => ?_)
                    · skip
                      refine Wlk.iconst (pc' := 310) (v := (0 : Int32)) at_309 rfl rfl ?_
                      refine Wlk.istore (pc' := 312) (Ls' := #[.val (.long p1), .second, .val (.long p2), .second, .val (.long p3), .second, .val (.int p4), .val (.int (9 : Int32)), .val (.int c217), .val (.int c224), .val (.int c231), .val (.int c238), .val (.int c245), .val (.int c252), .val (.int c259), .val (.int c266), .val (.int c273), .val (.int c280), .val (.ref b738), .val (.int (0 : Int32)), .unset]) at_310 rfl rfl rfl ?_
                      refine Wlk.iload (pc' := 314) (v := (0 : Int32)) at_312 rfl rfl ?_
                      refine Wlk.ifF (pc' := 317) at_314 (show (0 : Int32) = (0 : Int32) from by decide) rfl ?_
                      refine Wlk.iconst (pc' := 318) (v := (1 : Int32)) at_317 rfl rfl ?_
                      refine Wlk.goto (pc' := 322) at_318 (by decide) (by decide) ?_
                      refine Wlk.istore (pc' := 324) (Ls' := #[.val (.long p1), .second, .val (.long p2), .second, .val (.long p3), .second, .val (.int p4), .val (.int (9 : Int32)), .val (.int c217), .val (.int c224), .val (.int c231), .val (.int c238), .val (.int c245), .val (.int c252), .val (.int c259), .val (.int c266), .val (.int c273), .val (.int c280), .val (.ref b738), .val (.int (0 : Int32)), .val (.int (1 : Int32))]) at_322 rfl rfl rfl ?_
                      refine Wlk.newO (pc' := 327) (C := "java/lang/String") at_324 (hw _ (List.mem_of_getElem? (i := 7) rfl)) (hw _ (List.mem_of_getElem? (i := 8) rfl)) (hw _ (List.mem_of_getElem? (i := 9) rfl)) (by decide) (by decide) rfl (fun b999 h1000 le1001 g1002 E1003 A1004 D1005 => ?_)
                      have F1006 : Fld Z h1000 b999 "java/lang/String" "coder" "B" (.int (0 : Int32)) := D1005 (Or.inr (hw _ (List.mem_of_getElem? (i := 33) rfl))) (ty := .byte) (by decide)
                      have F1007 : Fld Z h1000 b999 "java/lang/String" "value" "[B" .null := D1005 (Or.inr (hw _ (List.mem_of_getElem? (i := 35) rfl))) (ty := (.array .byte)) (by decide)
                      refine Wlk.dup (pc' := 328) at_327 rfl rfl ?_
                      refine Wlk.aload (pc' := 330) (v := (.ref b738)) at_328 rfl rfl rfl ?_
                      have hR1008 : ∀ c ∈ [c217, c224, c231, c238, c245, c252, c259, c266, c273], ¬ c < 0 ∧ ¬ (65535 : Int32) < c := by
                        intro c hc
                        simp only [List.mem_cons, List.not_mem_nil, or_false] at hc
                        rcases hc with hc | hc | hc | hc | hc | hc | hc | hc | hc
                        · rw [hc]; exact ⟨n218, n219⟩
                        · rw [hc]; exact ⟨n225, n226⟩
                        · rw [hc]; exact ⟨n232, n233⟩
                        · rw [hc]; exact ⟨n239, n240⟩
                        · rw [hc]; exact ⟨n246, n247⟩
                        · rw [hc]; exact ⟨n253, n254⟩
                        · rw [hc]; exact ⟨n260, n261⟩
                        · rw [hc]; exact ⟨n267, n268⟩
                        · rw [hc]; exact ⟨n274, n275⟩
                      have c1009 := (A781.ext E1003)
                      refine Wlk.callC (pc' := 333) (a := b999) (z := (⟨"java/lang/String", "<init>", "([C)V"⟩ : MethodName)) (argsL := [(.ref b738)]) (st := [(.ref b999)]) (W := 1) at_330 (hw _ (List.mem_of_getElem? (i := 10) rfl)) (hw _ (List.mem_of_getElem? (i := 11) rfl)) (hw _ (List.mem_of_getElem? (i := 9) rfl)) (hw _ (List.mem_of_getElem? (i := 12) rfl)) (by decide) rfl pd_11 rfl (st_ini1A hw b999 b738 .null (.int (0 : Int32)) kc740 [c217, c224, c231, c238, c245, c252, c259, c266, c273] (.int 0) zc h1000 q0_Sta q1_Sta q2_Sta A1004 F1007 F1006 g1002 c1009 O2 P3 (by first | exact hn | exact Nat.le_of_ble_eq_true rfl) (by first | exact hp | exact Nat.le_of_ble_eq_true rfl) hR1008) (by decide) rfl (by decide) (by decide) (by decide) rfl rfl (fun v1010 h1011 J1012 q1013 => ?_)
                      obtain ⟨t1014, rfl, le1015, g1016, K1017, n1018⟩ := q1013
                      show Wlk _ _ _ _ _ _ _ _ _ h1011 4 43 333 #[.val (.long p1), .second, .val (.long p2), .second, .val (.long p3), .second, .val (.int p4), .val (.int (9 : Int32)), .val (.int c217), .val (.int c224), .val (.int c231), .val (.int c238), .val (.int c245), .val (.int c252), .val (.int c259), .val (.int c266), .val (.int c273), .val (.int c280), .val (.ref b738), .val (.int (0 : Int32)), .val (.int (1 : Int32))] [(.ref b999)]
                      refine Wlk.callSw (pc' := 336) (z := (⟨"com/example/wenyi/wenyi/request/YonyouSignature", "isSigned", "(Ljava/lang/String;)Z"⟩ : MethodName)) (argsL := [(.ref b999)]) (st := []) (W := 0) at_333 (hw _ (List.mem_of_getElem? (i := 36) rfl)) (hw _ (List.mem_of_getElem? (i := 37) rfl)) (hw _ (List.mem_of_getElem? (i := 38) rfl)) (hw _ (List.mem_of_getElem? (i := 39) rfl)) (by decide) pd_12 rfl (rm_sgn hw b999 t1014 [c217, c224, c231, c238, c245, c252, c259, c266, c273] zc [] [] h1011 n1018 O2 P3 wS hcw hh_25 (by decide) (fun x hx => (hR1008 x hx).1) (Nat.le_of_ble_eq_true rfl)) (by decide) rfl (by decide) (by decide) (by decide) rfl rfl (fun v1019 h1020 J1021 q1022 => ?_)
                      obtain ⟨c1023, rfl, K1024, rfl⟩ := q1022
                      show Wlk _ _ _ _ _ _ _ _ _ h1020 6 83 336 #[.val (.long p1), .second, .val (.long p2), .second, .val (.long p3), .second, .val (.int p4), .val (.int (9 : Int32)), .val (.int c217), .val (.int c224), .val (.int c231), .val (.int c238), .val (.int c245), .val (.int c252), .val (.int c259), .val (.int c266), .val (.int c273), .val (.int c280), .val (.ref b738), .val (.int (0 : Int32)), .val (.int (1 : Int32))] [(.int (if [c217, c224, c231, c238, c245, c252, c259, c266, c273] = sigL then (0 : Int32) else 1))]
                      refine Wlk.iload (pc' := 338) (v := (1 : Int32)) at_336 rfl rfl ?_
                      refine Wlk.icF (pc' := 341) at_338 (show (if [c217, c224, c231, c238, c245, c252, c259, c266, c273] = sigL then (0 : Int32) else 1) = (1 : Int32) from (if_neg (fun (q : [c217, c224, c231, c238, c245, c252, c259, c266, c273] = sigL) => hc998 (congrArg (fun l : List Int32 => l.getD 8 0) q)))) rfl ?_
                      refine Wlk.iconst (pc' := 342) (v := (1 : Int32)) at_341 rfl rfl ?_
                      refine Wlk.goto (pc' := 346) at_342 (by decide) (by decide) ?_
                      refine Wlk.ireturnN (t := .boolean) at_346 rfl (by simp) (by decide) (by decide) ?_
                      exact rfl
                    · skip
                      refine Wlk.iconst (pc' := 306) (v := (1 : Int32)) at_305 rfl rfl ?_
                      refine Wlk.goto (pc' := 310) at_306 (by decide) (by decide) ?_
                      refine Wlk.istore (pc' := 312) (Ls' := #[.val (.long p1), .second, .val (.long p2), .second, .val (.long p3), .second, .val (.int p4), .val (.int (9 : Int32)), .val (.int c217), .val (.int c224), .val (.int c231), .val (.int c238), .val (.int c245), .val (.int c252), .val (.int c259), .val (.int c266), .val (.int c273), .val (.int c280), .val (.ref b738), .val (.int (1 : Int32)), .unset]) at_310 rfl rfl rfl ?_
                      refine Wlk.iload (pc' := 314) (v := (1 : Int32)) at_312 rfl rfl ?_
                      refine Wlk.ifT (pc' := 321) at_314 (by decide) (by decide) (show ¬ ((1 : Int32) = (0 : Int32)) from by decide) ?_
                      refine Wlk.iconst (pc' := 322) (v := (0 : Int32)) at_321 rfl rfl ?_
                      refine Wlk.istore (pc' := 324) (Ls' := #[.val (.long p1), .second, .val (.long p2), .second, .val (.long p3), .second, .val (.int p4), .val (.int (9 : Int32)), .val (.int c217), .val (.int c224), .val (.int c231), .val (.int c238), .val (.int c245), .val (.int c252), .val (.int c259), .val (.int c266), .val (.int c273), .val (.int c280), .val (.ref b738), .val (.int (1 : Int32)), .val (.int (0 : Int32))]) at_322 rfl rfl rfl ?_
                      refine Wlk.newO (pc' := 327) (C := "java/lang/String") at_324 (hw _ (List.mem_of_getElem? (i := 7) rfl)) (hw _ (List.mem_of_getElem? (i := 8) rfl)) (hw _ (List.mem_of_getElem? (i := 9) rfl)) (by decide) (by decide) rfl (fun b1025 h1026 le1027 g1028 E1029 A1030 D1031 => ?_)
                      have F1032 : Fld Z h1026 b1025 "java/lang/String" "coder" "B" (.int (0 : Int32)) := D1031 (Or.inr (hw _ (List.mem_of_getElem? (i := 33) rfl))) (ty := .byte) (by decide)
                      have F1033 : Fld Z h1026 b1025 "java/lang/String" "value" "[B" .null := D1031 (Or.inr (hw _ (List.mem_of_getElem? (i := 35) rfl))) (ty := (.array .byte)) (by decide)
                      refine Wlk.dup (pc' := 328) at_327 rfl rfl ?_
                      refine Wlk.aload (pc' := 330) (v := (.ref b738)) at_328 rfl rfl rfl ?_
                      have hR1034 : ∀ c ∈ [c217, c224, c231, c238, c245, c252, c259, c266, c273], ¬ c < 0 ∧ ¬ (65535 : Int32) < c := by
                        intro c hc
                        simp only [List.mem_cons, List.not_mem_nil, or_false] at hc
                        rcases hc with hc | hc | hc | hc | hc | hc | hc | hc | hc
                        · rw [hc]; exact ⟨n218, n219⟩
                        · rw [hc]; exact ⟨n225, n226⟩
                        · rw [hc]; exact ⟨n232, n233⟩
                        · rw [hc]; exact ⟨n239, n240⟩
                        · rw [hc]; exact ⟨n246, n247⟩
                        · rw [hc]; exact ⟨n253, n254⟩
                        · rw [hc]; exact ⟨n260, n261⟩
                        · rw [hc]; exact ⟨n267, n268⟩
                        · rw [hc]; exact ⟨n274, n275⟩
                      have c1035 := (A781.ext E1029)
                      refine Wlk.callC (pc' := 333) (a := b1025) (z := (⟨"java/lang/String", "<init>", "([C)V"⟩ : MethodName)) (argsL := [(.ref b738)]) (st := [(.ref b1025)]) (W := 1) at_330 (hw _ (List.mem_of_getElem? (i := 10) rfl)) (hw _ (List.mem_of_getElem? (i := 11) rfl)) (hw _ (List.mem_of_getElem? (i := 9) rfl)) (hw _ (List.mem_of_getElem? (i := 12) rfl)) (by decide) rfl pd_11 rfl (st_ini1A hw b1025 b738 .null (.int (0 : Int32)) kc740 [c217, c224, c231, c238, c245, c252, c259, c266, c273] (.int 0) zc h1026 q0_Sta q1_Sta q2_Sta A1030 F1033 F1032 g1028 c1035 O2 P3 (by first | exact hn | exact Nat.le_of_ble_eq_true rfl) (by first | exact hp | exact Nat.le_of_ble_eq_true rfl) hR1034) (by decide) rfl (by decide) (by decide) (by decide) rfl rfl (fun v1036 h1037 J1038 q1039 => ?_)
                      obtain ⟨t1040, rfl, le1041, g1042, K1043, n1044⟩ := q1039
                      show Wlk _ _ _ _ _ _ _ _ _ h1037 4 43 333 #[.val (.long p1), .second, .val (.long p2), .second, .val (.long p3), .second, .val (.int p4), .val (.int (9 : Int32)), .val (.int c217), .val (.int c224), .val (.int c231), .val (.int c238), .val (.int c245), .val (.int c252), .val (.int c259), .val (.int c266), .val (.int c273), .val (.int c280), .val (.ref b738), .val (.int (1 : Int32)), .val (.int (0 : Int32))] [(.ref b1025)]
                      refine Wlk.callSw (pc' := 336) (z := (⟨"com/example/wenyi/wenyi/request/YonyouSignature", "isSigned", "(Ljava/lang/String;)Z"⟩ : MethodName)) (argsL := [(.ref b1025)]) (st := []) (W := 0) at_333 (hw _ (List.mem_of_getElem? (i := 36) rfl)) (hw _ (List.mem_of_getElem? (i := 37) rfl)) (hw _ (List.mem_of_getElem? (i := 38) rfl)) (hw _ (List.mem_of_getElem? (i := 39) rfl)) (by decide) pd_12 rfl (rm_sgn hw b1025 t1040 [c217, c224, c231, c238, c245, c252, c259, c266, c273] zc [] [] h1037 n1044 O2 P3 wS hcw hh_25 (by decide) (fun x hx => (hR1034 x hx).1) (Nat.le_of_ble_eq_true rfl)) (by decide) rfl (by decide) (by decide) (by decide) rfl rfl (fun v1045 h1046 J1047 q1048 => ?_)
                      obtain ⟨c1049, rfl, K1050, rfl⟩ := q1048
                      show Wlk _ _ _ _ _ _ _ _ _ h1046 6 83 336 #[.val (.long p1), .second, .val (.long p2), .second, .val (.long p3), .second, .val (.int p4), .val (.int (9 : Int32)), .val (.int c217), .val (.int c224), .val (.int c231), .val (.int c238), .val (.int c245), .val (.int c252), .val (.int c259), .val (.int c266), .val (.int c273), .val (.int c280), .val (.ref b738), .val (.int (1 : Int32)), .val (.int (0 : Int32))] [(.int (if [c217, c224, c231, c238, c245, c252, c259, c266, c273] = sigL then (0 : Int32) else 1))]
                      refine Wlk.iload (pc' := 338) (v := (0 : Int32)) at_336 rfl rfl ?_
                      refine Wlk.icF (pc' := 341) at_338 (show (if [c217, c224, c231, c238, c245, c252, c259, c266, c273] = sigL then (0 : Int32) else 1) = (0 : Int32) from (if_pos (show [c217, c224, c231, c238, c245, c252, c259, c266, c273] = sigL from by rw [hc782, hc809, hc836, hc863, hc890, hc917, hc944, hc971, hc998]; rfl))) rfl ?_
                      refine Wlk.iconst (pc' := 342) (v := (1 : Int32)) at_341 rfl rfl ?_
                      refine Wlk.goto (pc' := 346) at_342 (by decide) (by decide) ?_
                      refine Wlk.ireturnN (t := .boolean) at_346 rfl (by simp) (by decide) (by decide) ?_
                      exact rfl
  · skip
    refine Wlk.iload (pc' := 104) (v := (10 : Int32)) at_102 rfl rfl ?_
    refine Wlk.newP (pc' := 106) (ty := .char) (cap := 10) at_104 rfl (hw _ (List.mem_of_getElem? (i := 6) rfl)) (by decide) (by decide) (by decide) (by decide) (by decide) rfl (fun b1051 h1052 kc1053 le1054 g1055 E1056 A1057 => ?_)
    have A1058 : Arv Z h1052 b1051 kc1053 .char (10 : Int32) [.int 0, .int 0, .int 0, .int 0, .int 0, .int 0, .int 0, .int 0, .int 0, .int 0] (.int 0) := A1057.pad (pad_rep [] (.int 0) 10)
    refine Wlk.astore (pc' := 108) (Ls' := #[.val (.long p1), .second, .val (.long p2), .second, .val (.long p3), .second, .val (.int p4), .val (.int (10 : Int32)), .val (.int c217), .val (.int c224), .val (.int c231), .val (.int c238), .val (.int c245), .val (.int c252), .val (.int c259), .val (.int c266), .val (.int c273), .val (.int c280), .val (.ref b1051), .unset, .unset]) at_106 rfl rfl rfl rfl ?_
    refine Wlk.iload (pc' := 110) (v := (10 : Int32)) at_108 rfl rfl ?_
    refine Wlk.ifF (pc' := 113) at_110 (show (0 : Int32) < (10 : Int32) from by decide) rfl ?_
    refine Wlk.aload (pc' := 115) (v := (.ref b1051)) at_113 rfl rfl rfl ?_
    refine Wlk.iconst (pc' := 116) (v := (0 : Int32)) at_115 rfl rfl ?_
    refine Wlk.iload (pc' := 118) (v := c217) at_116 rfl rfl ?_
    refine Wlk.castore (pc' := 119) (i := 0) at_118 A1058 ⟨by decide, by decide⟩ rfl (Nat.le_of_ble_eq_true rfl) g1055 rfl (fun h1059 W1060 A1061 => ?_)
    rw [nar_char n218 n219] at A1061
    have A1062 : Arv Z h1059 b1051 kc1053 .char (10 : Int32) [(.int c217), (.int (0 : Int32)), (.int (0 : Int32)), (.int (0 : Int32)), (.int (0 : Int32)), (.int (0 : Int32)), (.int (0 : Int32)), (.int (0 : Int32)), (.int (0 : Int32)), (.int (0 : Int32))] (.int 0) := A1061
    refine Wlk.iload (pc' := 121) (v := (10 : Int32)) at_119 rfl rfl ?_
    refine Wlk.iconst (pc' := 122) (v := (1 : Int32)) at_121 rfl rfl ?_
    refine Wlk.icF (pc' := 125) at_122 (show (1 : Int32) < (10 : Int32) from by decide) rfl ?_
    refine Wlk.aload (pc' := 127) (v := (.ref b1051)) at_125 rfl rfl rfl ?_
    refine Wlk.iconst (pc' := 128) (v := (1 : Int32)) at_127 rfl rfl ?_
    refine Wlk.iload (pc' := 130) (v := c224) at_128 rfl rfl ?_
    refine Wlk.castore (pc' := 131) (i := 1) at_130 A1062 ⟨by decide, by decide⟩ rfl (Nat.le_of_ble_eq_true rfl) g1055 rfl (fun h1063 W1064 A1065 => ?_)
    rw [nar_char n225 n226] at A1065
    have A1066 : Arv Z h1063 b1051 kc1053 .char (10 : Int32) [(.int c217), (.int c224), (.int (0 : Int32)), (.int (0 : Int32)), (.int (0 : Int32)), (.int (0 : Int32)), (.int (0 : Int32)), (.int (0 : Int32)), (.int (0 : Int32)), (.int (0 : Int32))] (.int 0) := A1065
    refine Wlk.iload (pc' := 133) (v := (10 : Int32)) at_131 rfl rfl ?_
    refine Wlk.iconst (pc' := 134) (v := (2 : Int32)) at_133 rfl rfl ?_
    refine Wlk.icF (pc' := 137) at_134 (show (2 : Int32) < (10 : Int32) from by decide) rfl ?_
    refine Wlk.aload (pc' := 139) (v := (.ref b1051)) at_137 rfl rfl rfl ?_
    refine Wlk.iconst (pc' := 140) (v := (2 : Int32)) at_139 rfl rfl ?_
    refine Wlk.iload (pc' := 142) (v := c231) at_140 rfl rfl ?_
    refine Wlk.castore (pc' := 143) (i := 2) at_142 A1066 ⟨by decide, by decide⟩ rfl (Nat.le_of_ble_eq_true rfl) g1055 rfl (fun h1067 W1068 A1069 => ?_)
    rw [nar_char n232 n233] at A1069
    have A1070 : Arv Z h1067 b1051 kc1053 .char (10 : Int32) [(.int c217), (.int c224), (.int c231), (.int (0 : Int32)), (.int (0 : Int32)), (.int (0 : Int32)), (.int (0 : Int32)), (.int (0 : Int32)), (.int (0 : Int32)), (.int (0 : Int32))] (.int 0) := A1069
    refine Wlk.iload (pc' := 145) (v := (10 : Int32)) at_143 rfl rfl ?_
    refine Wlk.iconst (pc' := 146) (v := (3 : Int32)) at_145 rfl rfl ?_
    refine Wlk.icF (pc' := 149) at_146 (show (3 : Int32) < (10 : Int32) from by decide) rfl ?_
    refine Wlk.aload (pc' := 151) (v := (.ref b1051)) at_149 rfl rfl rfl ?_
    refine Wlk.iconst (pc' := 152) (v := (3 : Int32)) at_151 rfl rfl ?_
    refine Wlk.iload (pc' := 154) (v := c238) at_152 rfl rfl ?_
    refine Wlk.castore (pc' := 155) (i := 3) at_154 A1070 ⟨by decide, by decide⟩ rfl (Nat.le_of_ble_eq_true rfl) g1055 rfl (fun h1071 W1072 A1073 => ?_)
    rw [nar_char n239 n240] at A1073
    have A1074 : Arv Z h1071 b1051 kc1053 .char (10 : Int32) [(.int c217), (.int c224), (.int c231), (.int c238), (.int (0 : Int32)), (.int (0 : Int32)), (.int (0 : Int32)), (.int (0 : Int32)), (.int (0 : Int32)), (.int (0 : Int32))] (.int 0) := A1073
    refine Wlk.iload (pc' := 157) (v := (10 : Int32)) at_155 rfl rfl ?_
    refine Wlk.iconst (pc' := 158) (v := (4 : Int32)) at_157 rfl rfl ?_
    refine Wlk.icF (pc' := 161) at_158 (show (4 : Int32) < (10 : Int32) from by decide) rfl ?_
    refine Wlk.aload (pc' := 163) (v := (.ref b1051)) at_161 rfl rfl rfl ?_
    refine Wlk.iconst (pc' := 164) (v := (4 : Int32)) at_163 rfl rfl ?_
    refine Wlk.iload (pc' := 166) (v := c245) at_164 rfl rfl ?_
    refine Wlk.castore (pc' := 167) (i := 4) at_166 A1074 ⟨by decide, by decide⟩ rfl (Nat.le_of_ble_eq_true rfl) g1055 rfl (fun h1075 W1076 A1077 => ?_)
    rw [nar_char n246 n247] at A1077
    have A1078 : Arv Z h1075 b1051 kc1053 .char (10 : Int32) [(.int c217), (.int c224), (.int c231), (.int c238), (.int c245), (.int (0 : Int32)), (.int (0 : Int32)), (.int (0 : Int32)), (.int (0 : Int32)), (.int (0 : Int32))] (.int 0) := A1077
    refine Wlk.iload (pc' := 169) (v := (10 : Int32)) at_167 rfl rfl ?_
    refine Wlk.iconst (pc' := 170) (v := (5 : Int32)) at_169 rfl rfl ?_
    refine Wlk.icF (pc' := 173) at_170 (show (5 : Int32) < (10 : Int32) from by decide) rfl ?_
    refine Wlk.aload (pc' := 175) (v := (.ref b1051)) at_173 rfl rfl rfl ?_
    refine Wlk.iconst (pc' := 176) (v := (5 : Int32)) at_175 rfl rfl ?_
    refine Wlk.iload (pc' := 178) (v := c252) at_176 rfl rfl ?_
    refine Wlk.castore (pc' := 179) (i := 5) at_178 A1078 ⟨by decide, by decide⟩ rfl (Nat.le_of_ble_eq_true rfl) g1055 rfl (fun h1079 W1080 A1081 => ?_)
    rw [nar_char n253 n254] at A1081
    have A1082 : Arv Z h1079 b1051 kc1053 .char (10 : Int32) [(.int c217), (.int c224), (.int c231), (.int c238), (.int c245), (.int c252), (.int (0 : Int32)), (.int (0 : Int32)), (.int (0 : Int32)), (.int (0 : Int32))] (.int 0) := A1081
    refine Wlk.iload (pc' := 181) (v := (10 : Int32)) at_179 rfl rfl ?_
    refine Wlk.bipush (pc' := 183) (v := (6 : Int32)) at_181 (by decide) rfl ?_
    refine Wlk.icF (pc' := 186) at_183 (show (6 : Int32) < (10 : Int32) from by decide) rfl ?_
    refine Wlk.aload (pc' := 188) (v := (.ref b1051)) at_186 rfl rfl rfl ?_
    refine Wlk.bipush (pc' := 190) (v := (6 : Int32)) at_188 (by decide) rfl ?_
    refine Wlk.iload (pc' := 192) (v := c259) at_190 rfl rfl ?_
    refine Wlk.castore (pc' := 193) (i := 6) at_192 A1082 ⟨by decide, by decide⟩ rfl (Nat.le_of_ble_eq_true rfl) g1055 rfl (fun h1083 W1084 A1085 => ?_)
    rw [nar_char n260 n261] at A1085
    have A1086 : Arv Z h1083 b1051 kc1053 .char (10 : Int32) [(.int c217), (.int c224), (.int c231), (.int c238), (.int c245), (.int c252), (.int c259), (.int (0 : Int32)), (.int (0 : Int32)), (.int (0 : Int32))] (.int 0) := A1085
    refine Wlk.iload (pc' := 195) (v := (10 : Int32)) at_193 rfl rfl ?_
    refine Wlk.bipush (pc' := 197) (v := (7 : Int32)) at_195 (by decide) rfl ?_
    refine Wlk.icF (pc' := 200) at_197 (show (7 : Int32) < (10 : Int32) from by decide) rfl ?_
    refine Wlk.aload (pc' := 202) (v := (.ref b1051)) at_200 rfl rfl rfl ?_
    refine Wlk.bipush (pc' := 204) (v := (7 : Int32)) at_202 (by decide) rfl ?_
    refine Wlk.iload (pc' := 206) (v := c266) at_204 rfl rfl ?_
    refine Wlk.castore (pc' := 207) (i := 7) at_206 A1086 ⟨by decide, by decide⟩ rfl (Nat.le_of_ble_eq_true rfl) g1055 rfl (fun h1087 W1088 A1089 => ?_)
    rw [nar_char n267 n268] at A1089
    have A1090 : Arv Z h1087 b1051 kc1053 .char (10 : Int32) [(.int c217), (.int c224), (.int c231), (.int c238), (.int c245), (.int c252), (.int c259), (.int c266), (.int (0 : Int32)), (.int (0 : Int32))] (.int 0) := A1089
    refine Wlk.iload (pc' := 209) (v := (10 : Int32)) at_207 rfl rfl ?_
    refine Wlk.bipush (pc' := 211) (v := (8 : Int32)) at_209 (by decide) rfl ?_
    refine Wlk.icF (pc' := 214) at_211 (show (8 : Int32) < (10 : Int32) from by decide) rfl ?_
    refine Wlk.aload (pc' := 216) (v := (.ref b1051)) at_214 rfl rfl rfl ?_
    refine Wlk.bipush (pc' := 218) (v := (8 : Int32)) at_216 (by decide) rfl ?_
    refine Wlk.iload (pc' := 220) (v := c273) at_218 rfl rfl ?_
    refine Wlk.castore (pc' := 221) (i := 8) at_220 A1090 ⟨by decide, by decide⟩ rfl (Nat.le_of_ble_eq_true rfl) g1055 rfl (fun h1091 W1092 A1093 => ?_)
    rw [nar_char n274 n275] at A1093
    have A1094 : Arv Z h1091 b1051 kc1053 .char (10 : Int32) [(.int c217), (.int c224), (.int c231), (.int c238), (.int c245), (.int c252), (.int c259), (.int c266), (.int c273), (.int (0 : Int32))] (.int 0) := A1093
    refine Wlk.iload (pc' := 223) (v := (10 : Int32)) at_221 rfl rfl ?_
    refine Wlk.bipush (pc' := 225) (v := (9 : Int32)) at_223 (by decide) rfl ?_
    refine Wlk.icF (pc' := 228) at_225 (show (9 : Int32) < (10 : Int32) from by decide) rfl ?_
    refine Wlk.aload (pc' := 230) (v := (.ref b1051)) at_228 rfl rfl rfl ?_
    refine Wlk.bipush (pc' := 232) (v := (9 : Int32)) at_230 (by decide) rfl ?_
    refine Wlk.iload (pc' := 234) (v := c280) at_232 rfl rfl ?_
    refine Wlk.castore (pc' := 235) (i := 9) at_234 A1094 ⟨by decide, by decide⟩ rfl (Nat.le_of_ble_eq_true rfl) g1055 rfl (fun h1095 W1096 A1097 => ?_)
    rw [nar_char n281 n282] at A1097
    have A1098 : Arv Z h1095 b1051 kc1053 .char (10 : Int32) [(.int c217), (.int c224), (.int c231), (.int c238), (.int c245), (.int c252), (.int c259), (.int c266), (.int c273), (.int c280)] (.int 0) := A1097
    refine Wlk.iload (pc' := 237) (v := (10 : Int32)) at_235 rfl rfl ?_
    refine Wlk.bipush (pc' := 239) (v := (9 : Int32)) at_237 (by decide) rfl ?_
    refine Wlk.icT (pc' := 309) at_239 (by decide) (by decide) (show ¬ ((10 : Int32) = (9 : Int32)) from by decide) ?_
    refine Wlk.iconst (pc' := 310) (v := (0 : Int32)) at_309 rfl rfl ?_
    refine Wlk.istore (pc' := 312) (Ls' := #[.val (.long p1), .second, .val (.long p2), .second, .val (.long p3), .second, .val (.int p4), .val (.int (10 : Int32)), .val (.int c217), .val (.int c224), .val (.int c231), .val (.int c238), .val (.int c245), .val (.int c252), .val (.int c259), .val (.int c266), .val (.int c273), .val (.int c280), .val (.ref b1051), .val (.int (0 : Int32)), .unset]) at_310 rfl rfl rfl ?_
    refine Wlk.iload (pc' := 314) (v := (0 : Int32)) at_312 rfl rfl ?_
    refine Wlk.ifF (pc' := 317) at_314 (show (0 : Int32) = (0 : Int32) from by decide) rfl ?_
    refine Wlk.iconst (pc' := 318) (v := (1 : Int32)) at_317 rfl rfl ?_
    refine Wlk.goto (pc' := 322) at_318 (by decide) (by decide) ?_
    refine Wlk.istore (pc' := 324) (Ls' := #[.val (.long p1), .second, .val (.long p2), .second, .val (.long p3), .second, .val (.int p4), .val (.int (10 : Int32)), .val (.int c217), .val (.int c224), .val (.int c231), .val (.int c238), .val (.int c245), .val (.int c252), .val (.int c259), .val (.int c266), .val (.int c273), .val (.int c280), .val (.ref b1051), .val (.int (0 : Int32)), .val (.int (1 : Int32))]) at_322 rfl rfl rfl ?_
    refine Wlk.newO (pc' := 327) (C := "java/lang/String") at_324 (hw _ (List.mem_of_getElem? (i := 7) rfl)) (hw _ (List.mem_of_getElem? (i := 8) rfl)) (hw _ (List.mem_of_getElem? (i := 9) rfl)) (by decide) (by decide) rfl (fun b1099 h1100 le1101 g1102 E1103 A1104 D1105 => ?_)
    have F1106 : Fld Z h1100 b1099 "java/lang/String" "coder" "B" (.int (0 : Int32)) := D1105 (Or.inr (hw _ (List.mem_of_getElem? (i := 33) rfl))) (ty := .byte) (by decide)
    have F1107 : Fld Z h1100 b1099 "java/lang/String" "value" "[B" .null := D1105 (Or.inr (hw _ (List.mem_of_getElem? (i := 35) rfl))) (ty := (.array .byte)) (by decide)
    refine Wlk.dup (pc' := 328) at_327 rfl rfl ?_
    refine Wlk.aload (pc' := 330) (v := (.ref b1051)) at_328 rfl rfl rfl ?_
    have hR1108 : ∀ c ∈ [c217, c224, c231, c238, c245, c252, c259, c266, c273, c280], ¬ c < 0 ∧ ¬ (65535 : Int32) < c := by
      intro c hc
      simp only [List.mem_cons, List.not_mem_nil, or_false] at hc
      rcases hc with hc | hc | hc | hc | hc | hc | hc | hc | hc | hc
      · rw [hc]; exact ⟨n218, n219⟩
      · rw [hc]; exact ⟨n225, n226⟩
      · rw [hc]; exact ⟨n232, n233⟩
      · rw [hc]; exact ⟨n239, n240⟩
      · rw [hc]; exact ⟨n246, n247⟩
      · rw [hc]; exact ⟨n253, n254⟩
      · rw [hc]; exact ⟨n260, n261⟩
      · rw [hc]; exact ⟨n267, n268⟩
      · rw [hc]; exact ⟨n274, n275⟩
      · rw [hc]; exact ⟨n281, n282⟩
    have c1109 := (A1098.ext E1103)
    refine Wlk.callC (pc' := 333) (a := b1099) (z := (⟨"java/lang/String", "<init>", "([C)V"⟩ : MethodName)) (argsL := [(.ref b1051)]) (st := [(.ref b1099)]) (W := 1) at_330 (hw _ (List.mem_of_getElem? (i := 10) rfl)) (hw _ (List.mem_of_getElem? (i := 11) rfl)) (hw _ (List.mem_of_getElem? (i := 9) rfl)) (hw _ (List.mem_of_getElem? (i := 12) rfl)) (by decide) rfl pd_11 rfl (st_ini1A hw b1099 b1051 .null (.int (0 : Int32)) kc1053 [c217, c224, c231, c238, c245, c252, c259, c266, c273, c280] (.int 0) zc h1100 q0_Sta q1_Sta q2_Sta A1104 F1107 F1106 g1102 c1109 O2 P3 (by first | exact hn | exact Nat.le_of_ble_eq_true rfl) (by first | exact hp | exact Nat.le_of_ble_eq_true rfl) hR1108) (by decide) rfl (by decide) (by decide) (by decide) rfl rfl (fun v1110 h1111 J1112 q1113 => ?_)
    obtain ⟨t1114, rfl, le1115, g1116, K1117, n1118⟩ := q1113
    show Wlk _ _ _ _ _ _ _ _ _ h1111 4 44 333 #[.val (.long p1), .second, .val (.long p2), .second, .val (.long p3), .second, .val (.int p4), .val (.int (10 : Int32)), .val (.int c217), .val (.int c224), .val (.int c231), .val (.int c238), .val (.int c245), .val (.int c252), .val (.int c259), .val (.int c266), .val (.int c273), .val (.int c280), .val (.ref b1051), .val (.int (0 : Int32)), .val (.int (1 : Int32))] [(.ref b1099)]
    refine Wlk.callSw (pc' := 336) (z := (⟨"com/example/wenyi/wenyi/request/YonyouSignature", "isSigned", "(Ljava/lang/String;)Z"⟩ : MethodName)) (argsL := [(.ref b1099)]) (st := []) (W := 0) at_333 (hw _ (List.mem_of_getElem? (i := 36) rfl)) (hw _ (List.mem_of_getElem? (i := 37) rfl)) (hw _ (List.mem_of_getElem? (i := 38) rfl)) (hw _ (List.mem_of_getElem? (i := 39) rfl)) (by decide) pd_12 rfl (rm_sgn hw b1099 t1114 [c217, c224, c231, c238, c245, c252, c259, c266, c273, c280] zc [] [] h1111 n1118 O2 P3 wS hcw hh_25 (by decide) (fun x hx => (hR1108 x hx).1) (Nat.le_of_ble_eq_true rfl)) (by decide) rfl (by decide) (by decide) (by decide) rfl rfl (fun v1119 h1120 J1121 q1122 => ?_)
    obtain ⟨c1123, rfl, K1124, rfl⟩ := q1122
    show Wlk _ _ _ _ _ _ _ _ _ h1120 6 84 336 #[.val (.long p1), .second, .val (.long p2), .second, .val (.long p3), .second, .val (.int p4), .val (.int (10 : Int32)), .val (.int c217), .val (.int c224), .val (.int c231), .val (.int c238), .val (.int c245), .val (.int c252), .val (.int c259), .val (.int c266), .val (.int c273), .val (.int c280), .val (.ref b1051), .val (.int (0 : Int32)), .val (.int (1 : Int32))] [(.int (if [c217, c224, c231, c238, c245, c252, c259, c266, c273, c280] = sigL then (0 : Int32) else 1))]
    refine Wlk.iload (pc' := 338) (v := (1 : Int32)) at_336 rfl rfl ?_
    refine Wlk.icF (pc' := 341) at_338 (show (if [c217, c224, c231, c238, c245, c252, c259, c266, c273, c280] = sigL then (0 : Int32) else 1) = (1 : Int32) from (if_neg (fun (q : [c217, c224, c231, c238, c245, c252, c259, c266, c273, c280] = sigL) => absurd (congrArg List.length q) (show ¬ ((10 : Nat) = 9) by decide)))) rfl ?_
    refine Wlk.iconst (pc' := 342) (v := (1 : Int32)) at_341 rfl rfl ?_
    refine Wlk.goto (pc' := 346) at_342 (by decide) (by decide) ?_
    refine Wlk.ireturnN (t := .boolean) at_346 rfl (by simp) (by decide) (by decide) ?_
    exact rfl

set_option maxRecDepth 65536 in
set_option maxHeartbeats 40000000 in
theorem comes_1 {Post : Tables → Env → Array Value → State → Outcome → State → Prop} (hpost : ∀ tb e args s v u, (limb_1_1.after args s (.returned v) u = true ∧ limb_1_2.after args s (.returned v) u = true ∧ True) → ReturnedEndW s (.returned v) u (Jvm.fieldLocs frame_1_writes args s ++ Jvm.arrayLocs frame_1_arrays args s ++ Jvm.staticLocs frame_1_statics s) 24 2240 → Post tb e args s (.returned v) u) :
    ArmFor flags0 classFile x code maxLocals ret World_1 tables_1 room_1 Calls_1 rest_1 Pre_1 Post := by
  intro l hfl _ _ p e ha hc hk s m args below hf hA hF happ hP
  obtain ⟨hcalls, hrest, hpre⟩ := hP
  obtain ⟨-, -, -, hnamed, -, -, -, hat⟩ := (Spec.applies_iff hf).mp happ
  obtain ⟨hg, hn⟩ := and_e (Cond.before_iff.mp (show (Jvm.Cond.and given_1 narrow_1).before args s = true from hpre))
  obtain ⟨gc, gr0⟩ := and_e hg
  obtain ⟨ga0, gr1⟩ := and_e gr0
  obtain ⟨ga1, gr2⟩ := and_e gr1
  obtain ⟨ga2, gr3⟩ := and_e gr2
  obtain ⟨w0, w1, w2, w3, rfl⟩ : ∃ w0 w1 w2 w3 : Value, args = #[w0, w1, w2, w3] := by
    have hs : args.size = 4 := by simpa [Cond.value, given_1] using gc
    obtain ⟨L⟩ := args
    match L, hs with
    | [w0, w1, w2, w3], _ => exact ⟨w0, w1, w2, w3, rfl⟩
  have hw := fun d (hd : d ∈ tables_1) => atoms_spec (ws := Jvm.Cond.code x code maxLocals ret :: tables_1) hat d (List.mem_cons_of_mem _ hd)
  have hfit : Fit s := fun {y c} hc i hi => by
    obtain ⟨ha, rfl⟩ := Array.getElem?_eq_some_iff.mp hc
    have q := List.all_eq_true.mp ((Array.all_eq_true_iff_forall_mem.mp hF) _ (Array.getElem_mem ha)) i (List.mem_range.mpr hi)
    simpa [Array.getElem?_eq_getElem hi] using q
  obtain ⟨hsets, hown0⟩ := atoms_of _ (rest_1_c_eq ▸ (show rest_1_c.before _ s = true from hrest))
  obtain ⟨i0, ei0⟩ := isL_v ga0
  obtain rfl : w0 = (.long i0) := Option.some.inj ei0
  obtain ⟨i1, ei1⟩ := isL_v ga1
  obtain rfl : w1 = (.long i1) := Option.some.inj ei1
  obtain ⟨i2, ei2⟩ := isL_v ga2
  obtain rfl : w2 = (.long i2) := Option.some.inj ei2
  obtain ⟨i3, ei3⟩ := is_v gr3
  obtain rfl : w3 = (.int i3) := Option.some.inj ei3
  have hs1 := Cond.before_iff.mp (hsets _ (List.mem_of_getElem? (i := 1) rfl))
  obtain ⟨zc, ezc⟩ := is_v hs1
  have O2 : Sta s s.heap "java/lang/String" "COMPACT_STRINGS" "Z" (.int zc) := Sta.start ezc (Or.inl (hsets _ (List.mem_of_getElem? (i := 0) rfl)))
  have P3 : ¬ zc = 0 := fun q => by
    have hn0 := not_v (Cond.before_iff.mp (hsets _ (List.mem_of_getElem? (i := 2) rfl)))
    subst q
    have e1 := eq_i ezc (Term.int_eval (0)) rfl
    rw [e1] at hn0
    cases hn0
  have q0_Sta : Sta s s.heap "java/lang/StringUTF16" "$assertionsDisabled" "Z" (.int (1 : Int32)) := Sta.start (Cond.eq_int (hsets _ (List.mem_of_getElem? (i := 12) rfl)) rfl) (Or.inl (hsets _ (List.mem_of_getElem? (i := 11) rfl)))
  have q1_Sta : Sta s s.heap "java/lang/StringUTF16" "HI_BYTE_SHIFT" "I" (.int (0 : Int32)) := Sta.start (Cond.eq_int (hsets _ (List.mem_of_getElem? (i := 15) rfl)) rfl) (Or.inl (hsets _ (List.mem_of_getElem? (i := 14) rfl)))
  have q2_Sta : Sta s s.heap "java/lang/StringUTF16" "LO_BYTE_SHIFT" "I" (.int (8 : Int32)) := Sta.start (Cond.eq_int (hsets _ (List.mem_of_getElem? (i := 18) rfl)) rfl) (Or.inl (hsets _ (List.mem_of_getElem? (i := 17) rfl)))
  have wS : ∀ a ∈ Bundle.stringAtoms, a.before _ s = true := fun d hd => hw d ((by decide +kernel : ∀ d ∈ Bundle.stringAtoms, d ∈ tables_1) d hd)
  have hcw : Jvm.Lit.compactW.before _ s = true := hsets _ (List.mem_of_getElem? (i := 2) rfl)
  have hh_25 : Jvm.Lit.constHeld s "com/example/wenyi/wenyi/request/YonyouSignature" 25 := hcalls.1 ("com/example/wenyi/wenyi/request/YonyouSignature", 25) (List.mem_of_getElem? (i := 0) rfl)
  have hh_7 : Jvm.Lit.constHeld s "java/lang/String" 7 := hcalls.1 ("java/lang/String", 7) (List.mem_of_getElem? (i := 1) rfl)
  obtain ⟨n, o, h1, h2, h3, v, L, J', rfl, ⟨hQ, N, -, -⟩, hq, hq'⟩ := rm_law (l := l) (Z := s) hw tables_1 i0 i1 i2 i3 s.heap zc O2 P3 q0_Sta q1_Sta q2_Sta wS hcw hh_7 hh_25 p e ha hc hk s m _ below hf ((Spec.applies_iff_loose hf).mp happ).1 ⟨rfl, State.Warmed39.refl s, rfl, ⟨Nat.le_refl _, fun _ _ q => q⟩, fun _ _ => ⟨IB.start, fun x hx => nomatch hx⟩⟩ trivial
  obtain rfl := hQ
  refine ⟨n, _, h1, h2, h3, hpost _ _ _ _ _ _ ⟨Cond.after_iff.mpr rfl, Cond.after_iff.mpr (eq_i res_at (Term.int_eval (1)) rfl), trivial⟩ ⟨⟨_, rfl⟩, hq.2.1, hq.2.2.1, (hq.2.2.2.sift fun y hy => Or.inr (N y hy)).mono (by decide) (by decide)⟩⟩
theorem main_1_1 : Claimed_1_1 := comes_1 fun _ _ _ _ _ _ h hF => ⟨h.1, hF⟩
theorem main_1_2 : Claimed_1_2 := comes_1 fun _ _ _ _ _ _ h hF => ⟨h.2.1, hF⟩

end Jvm.Pilot.@@N@@
namespace Jvm.Pilot.@@N@@
open Jvm Jvm.ClassFile Sem Op Lib Jvm.Free Jvm.Stand Jvm.Pilot.@@N@@.Jvm.D
/-! MADE BY PROGRAM (witnessworld.py) out of the Statement's table words and the real class files: 20 classes; the members and pool entries that the words name. The judged class is class 1, her method 2. -/
namespace start1
open Jvm.ClassFile
def u (s : String) : CpInfo := .utf8 (stringToUtf16 s)
/-- a pool by its gaps: so many unusable entries, then the entry; so many at the end -/
def gap : Nat → List CpInfo → List CpInfo
  | 0, r => r
  | n + 1, r => .unusable :: gap n r
def poolList (es : List (Nat × CpInfo)) (last : Nat) : List CpInfo := es.foldr (fun e r => gap e.1 (e.2 :: r)) (gap last [])
def pool (es : List (Nat × CpInfo)) (last : Nat) : Array CpInfo := ⟨poolList es last⟩
def fileOf (pool : Array CpInfo) (this : Nat) (attrs : Array Attribute := #[]) (ms : Array MethodInfo := #[]) (fl : Nat := 33) (sup : Nat := 0) (ifs : Array Nat := #[]) (fds : Array FieldInfo := #[]) : ClassFile where
  minorVersion := 0
  majorVersion := 65
  constantPool := pool
  accessFlags := fl
  thisClass := this
  superClass := sup
  interfaces := ifs
  fields := fds
  methods := ms
  attributes := attrs
def plain (name : String) (sup : Option ClassId) : Class where
  name := name
  kind := .ordinary
  loader := none
  accessFlags := 33
  super := sup
  interfaces := #[]
  cf := none
  fields := #[]
  methods := #[]
  instanceTypes := #[]
  staticTypes := #[]
  resolved := #[]
  callSites := []
  init := .initialized
  statics := none
  mirror := none

def pool0 : Array CpInfo := pool [(5, u "<init>"), (0, u "()V"), (1, .class_ 10), (1, u "java/lang/Object")] 113

def k0c0 : Code := { maxStack := 0, maxLocals := 1, code := object_method_1_code, exceptionTable := #[], attributes := #[] }
def k0m0 : Method := { name := "<init>", desc := "()V", sig := { parameters := [], returnType := none }, accessFlags := 1, code := some k0c0 }
/-- java/lang/Object -/
def k0 : Class := { plain "java/lang/Object" none with
  accessFlags := 33
  interfaces := #[]
  cf := some (fileOf pool0 8 #[] #[{ accessFlags := 1, nameIndex := 5, descriptorIndex := 6, attributes := #[] }] 33 0 #[] #[])
  fields := #[]
  methods := #[k0m0]
  instanceTypes := #[]
  staticTypes := #[]
  resolved := Array.replicate 124 none
  statics := none }

def pool1 : Array CpInfo := pool [(2, .class_ 4), (1, u "java/lang/Object"), (0, u "<init>"), (0, u "()V"), (0, .long 65535), (1, .integer 2147483647), (0, .methodref 11 12), (0, .class_ 13), (0, .nameAndType 14 15), (0, u "com/example/wenyi/wenyi/request/YonyouSignatureIsSignedPinLaw"), (0, u "ch"), (0, u "(JIC)C"), (0, .class_ 17), (0, u "java/lang/String"), (0, .methodref 16 19), (0, .nameAndType 5 20), (0, u "([C)V"), (0, .methodref 22 23), (0, .class_ 24), (0, .nameAndType 25 26), (0, u "com/example/wenyi/wenyi/request/YonyouSignature"), (0, u "isSigned"), (0, u "(Ljava/lang/String;)Z"), (2, u "law"), (0, u "(JJJI)Z")] 5

def k1m0 : Method := { name := "<init>", desc := "()V", sig := { parameters := [], returnType := none }, accessFlags := 2, code := none }
def k1c1 : Code := { maxStack := 5, maxLocals := 4, code := method_2_code, exceptionTable := #[], attributes := #[] }
def k1m1 : Method := { name := "ch", desc := "(JIC)C", sig := { parameters := [.long, .int, .char], returnType := some .char }, accessFlags := 10, code := some k1c1 }
def k1c2 : Code := { maxStack := 4, maxLocals := 21, code := code, exceptionTable := #[], attributes := #[] }
def k1m2 : Method := { name := "law", desc := "(JJJI)Z", sig := { parameters := [.long, .long, .long, .int], returnType := some .boolean }, accessFlags := 9, code := some k1c2 }
/-- com/example/wenyi/wenyi/request/YonyouSignatureIsSignedPinLaw -/
def k1 : Class := { plain "com/example/wenyi/wenyi/request/YonyouSignatureIsSignedPinLaw" (some 0) with
  accessFlags := 49
  interfaces := #[]
  cf := some (fileOf pool1 11 #[] #[{ accessFlags := 2, nameIndex := 5, descriptorIndex := 6, attributes := #[] }, { accessFlags := 10, nameIndex := 14, descriptorIndex := 15, attributes := #[] }, { accessFlags := 9, nameIndex := 29, descriptorIndex := 30, attributes := #[] }] 49 2 #[] #[])
  fields := #[]
  methods := #[k1m0, k1m1, k1m2]
  instanceTypes := #[]
  staticTypes := #[]
  resolved := Array.replicate 36 none
  statics := none }

def pool2 : Array CpInfo := pool [(1, .class_ 2), (0, u "java/io/Serializable"), (0, .class_ 4), (0, u "java/lang/Object")] 2

/-- java/io/Serializable -/
def k2 : Class := { plain "java/io/Serializable" (some 0) with
  accessFlags := 1537
  interfaces := #[]
  cf := some (fileOf pool2 1 #[] #[] 1537 3 #[] #[])
  fields := #[]
  methods := #[]
  instanceTypes := #[]
  staticTypes := #[]
  resolved := Array.replicate 7 none
  statics := none }

def pool3 : Array CpInfo := pool [(1, .class_ 2), (0, u "java/lang/Comparable"), (0, .class_ 4), (0, u "java/lang/Object")] 7

/-- java/lang/Comparable -/
def k3 : Class := { plain "java/lang/Comparable" (some 0) with
  accessFlags := 1537
  interfaces := #[]
  cf := some (fileOf pool3 1 #[] #[] 1537 3 #[] #[])
  fields := #[]
  methods := #[]
  instanceTypes := #[]
  staticTypes := #[]
  resolved := Array.replicate 12 none
  statics := none }

def pool4 : Array CpInfo := pool [(2, .class_ 4), (1, u "java/lang/CharSequence"), (42, .class_ 48), (0, u "java/lang/CharSequence$1CodePointIterator"), (10, .class_ 60), (0, u "java/lang/CharSequence$1CharIterator"), (5, .class_ 67), (0, u "java/lang/Object")] 63

/-- java/lang/CharSequence -/
def k4 : Class := { plain "java/lang/CharSequence" (some 0) with
  accessFlags := 1537
  interfaces := #[]
  cf := some (fileOf pool4 2 #[.nestMembers #[47, 59]] #[] 1537 66 #[] #[])
  fields := #[]
  methods := #[]
  instanceTypes := #[]
  staticTypes := #[]
  resolved := Array.replicate 131 none
  statics := none }

def pool5 : Array CpInfo := pool [(1, .class_ 2), (0, u "java/lang/constant/Constable"), (0, .class_ 4), (0, u "java/lang/Object")] 6

/-- java/lang/constant/Constable -/
def k5 : Class := { plain "java/lang/constant/Constable" (some 0) with
  accessFlags := 1537
  interfaces := #[]
  cf := some (fileOf pool5 1 #[] #[] 1537 3 #[] #[])
  fields := #[]
  methods := #[]
  instanceTypes := #[]
  staticTypes := #[]
  resolved := Array.replicate 11 none
  statics := none }

def pool6 : Array CpInfo := pool [(1, .class_ 2), (0, u "java/lang/constant/ConstantDesc"), (0, .class_ 4), (0, u "java/lang/Object")] 32

/-- java/lang/constant/ConstantDesc -/
def k6 : Class := { plain "java/lang/constant/ConstantDesc" (some 0) with
  accessFlags := 1537
  interfaces := #[]
  cf := some (fileOf pool6 1 #[] #[] 1537 3 #[] #[])
  fields := #[]
  methods := #[]
  instanceTypes := #[]
  staticTypes := #[]
  resolved := Array.replicate 37 none
  statics := none }

def pool7 : Array CpInfo := pool [(1, .methodref 2 3), (0, .class_ 4), (0, .nameAndType 5 6), (0, u "java/lang/Object"), (0, u "<init>"), (0, u "()V"), (0, .string 8), (0, u ""), (0, .fieldref 10 11), (0, .class_ 12), (0, .nameAndType 13 14), (0, u "java/lang/String"), (0, u "value"), (0, u "[B"), (0, .fieldref 10 16), (0, .nameAndType 17 18), (0, u "coder"), (0, u "B"), (2, u "hash"), (0, u "I"), (2, u "hashIsZero"), (0, u "Z"), (0, .methodref 10 28), (0, .nameAndType 5 29), (0, u "([CIILjava/lang/Void;)V"), (8, .fieldref 10 39), (0, .nameAndType 40 26), (0, u "COMPACT_STRINGS"), (1, .class_ 44), (1, u "java/lang/StringUTF16"), (0, u "compress"), (1, .methodref 42 48), (0, .nameAndType 49 50), (0, u "coderFromArrayLen"), (0, u "([BI)B"), (56, .class_ 109), (1, u "java/lang/StringLatin1"), (67, .methodref 42 178), (0, .nameAndType 45 179), (0, u "([CII)[B"), (361, .methodref 107 542), (0, .nameAndType 543 544), (0, u "equals"), (0, u "([B[B)Z"), (28, u "(Ljava/lang/Object;)Z"), (1, .class_ 576), (0, u "java/lang/CharSequence"), (22, u "CASE_INSENSITIVE_ORDER"), (0, u "Ljava/util/Comparator;"), (409, u "([C)V"), (90, u "serialPersistentFields"), (0, u "[Ljava/io/ObjectStreamField;"), (0, .class_ 1104), (0, u "java/lang/String$CaseInsensitiveComparator"), (1, .class_ 1107), (0, u "java/io/Serializable"), (0, .class_ 1109), (0, u "java/lang/Comparable"), (0, .class_ 1111), (0, u "java/lang/constant/Constable"), (0, .class_ 1113), (0, u "java/lang/constant/ConstantDesc"), (2, u "serialVersionUID"), (0, u "J"), (3, u "REPL"), (0, u "C"), (2, u "LATIN1"), (1, u "UTF16")] 323

def k7m0 : Method := { name := "<init>", desc := "()V", sig := { parameters := [], returnType := none }, accessFlags := 1, code := none }
def k7c1 : Code := { maxStack := 5, maxLocals := 2, code := jdk_42_method_3_code, exceptionTable := #[], attributes := #[] }
def k7m1 : Method := { name := "<init>", desc := "([C)V", sig := { parameters := [(.array .char)], returnType := none }, accessFlags := 1, code := some k7c1 }
def k7c2 : Code := { maxStack := 2, maxLocals := 3, code := jdk_42_method_66_code, exceptionTable := #[], attributes := #[] }
def k7m2 : Method := { name := "equals", desc := "(Ljava/lang/Object;)Z", sig := { parameters := [(.object "java/lang/Object")], returnType := some .boolean }, accessFlags := 1, code := some k7c2 }
def k7c3 : Code := { maxStack := 4, maxLocals := 6, code := jdk_42_method_149_code, exceptionTable := #[], attributes := #[] }
def k7m3 : Method := { name := "<init>", desc := "([CIILjava/lang/Void;)V", sig := { parameters := [(.array .char), .int, .int, (.object "java/lang/Void")], returnType := none }, accessFlags := 2, code := some k7c3 }
/-- java/lang/String -/
def k7 : Class := { plain "java/lang/String" (some 0) with
  accessFlags := 49
  interfaces := #[2, 3, 4, 5, 6]
  cf := some (fileOf pool7 10 #[.nestMembers #[1103]] #[{ accessFlags := 1, nameIndex := 5, descriptorIndex := 6, attributes := #[] }, { accessFlags := 1, nameIndex := 5, descriptorIndex := 1010, attributes := #[] }, { accessFlags := 1, nameIndex := 543, descriptorIndex := 573, attributes := #[] }, { accessFlags := 2, nameIndex := 5, descriptorIndex := 29, attributes := #[] }] 49 2 #[1106, 1108, 575, 1110, 1112] #[{ accessFlags := 18, nameIndex := 13, descriptorIndex := 14, attributes := #[] }, { accessFlags := 18, nameIndex := 17, descriptorIndex := 18, attributes := #[] }, { accessFlags := 2, nameIndex := 21, descriptorIndex := 22, attributes := #[] }, { accessFlags := 2, nameIndex := 25, descriptorIndex := 26, attributes := #[] }, { accessFlags := 26, nameIndex := 1116, descriptorIndex := 1117, attributes := #[] }, { accessFlags := 24, nameIndex := 40, descriptorIndex := 26, attributes := #[] }, { accessFlags := 26, nameIndex := 1101, descriptorIndex := 1102, attributes := #[] }, { accessFlags := 26, nameIndex := 1121, descriptorIndex := 1122, attributes := #[] }, { accessFlags := 25, nameIndex := 599, descriptorIndex := 600, attributes := #[] }, { accessFlags := 24, nameIndex := 1125, descriptorIndex := 18, attributes := #[] }, { accessFlags := 24, nameIndex := 1127, descriptorIndex := 18, attributes := #[] }])
  fields := #[{ name := "value", type := (.array .byte), accessFlags := 18, slot := 0, constantValue := 0 }, { name := "coder", type := .byte, accessFlags := 18, slot := 1, constantValue := 0 }, { name := "hash", type := .int, accessFlags := 2, slot := 2, constantValue := 0 }, { name := "hashIsZero", type := .boolean, accessFlags := 2, slot := 3, constantValue := 0 }, { name := "serialVersionUID", type := .long, accessFlags := 26, slot := 0, constantValue := 0 }, { name := "COMPACT_STRINGS", type := .boolean, accessFlags := 24, slot := 1, constantValue := 0 }, { name := "serialPersistentFields", type := (.array (.object "java/io/ObjectStreamField")), accessFlags := 26, slot := 2, constantValue := 0 }, { name := "REPL", type := .char, accessFlags := 26, slot := 3, constantValue := 0 }, { name := "CASE_INSENSITIVE_ORDER", type := (.object "java/util/Comparator"), accessFlags := 25, slot := 4, constantValue := 0 }, { name := "LATIN1", type := .byte, accessFlags := 24, slot := 5, constantValue := 0 }, { name := "UTF16", type := .byte, accessFlags := 24, slot := 6, constantValue := 0 }]
  methods := #[k7m0, k7m1, k7m2, k7m3]
  instanceTypes := #[(.array .byte), .byte, .int, .boolean]
  staticTypes := #[.long, .boolean, (.array (.object "java/io/ObjectStreamField")), .char, (.object "java/util/Comparator"), .byte, .byte]
  resolved := Array.replicate 1451 none
  statics := some 0 }

def pool8 : Array CpInfo := pool [(6, .class_ 8), (1, u "java/lang/Object"), (0, u "<init>"), (0, u "()V"), (0, .methodref 12 13), (0, .class_ 14), (0, .nameAndType 15 16), (0, u "java/lang/StringUTF16"), (0, u "newBytesLength"), (0, u "(I)I"), (3, .integer 1073741823), (23, .fieldref 12 45), (0, .nameAndType 46 47), (0, u "$assertionsDisabled"), (0, u "Z"), (11, .fieldref 12 60), (0, .nameAndType 61 62), (0, u "HI_BYTE_SHIFT"), (0, u "I"), (0, .fieldref 12 64), (0, .nameAndType 65 62), (0, u "LO_BYTE_SHIFT"), (5, .methodref 12 72), (0, .nameAndType 73 74), (0, u "getChar"), (0, u "([BI)C"), (32, .methodref 12 108), (0, .nameAndType 109 110), (0, u "newBytesFor"), (0, u "(I)[B"), (0, .methodref 12 112), (0, .nameAndType 113 114), (0, u "putChar"), (0, u "([BII)V"), (0, .methodref 12 116), (0, .nameAndType 117 118), (0, u "compress"), (0, u "([CI[BII)I"), (0, .methodref 12 120), (0, .nameAndType 121 122), (0, u "toBytes"), (0, u "([CII)[B"), (138, u "coderFromArrayLen"), (0, u "([BI)B"), (106, .class_ 371), (1, u "java/lang/StringUTF16$LinesSpliterator"), (58, u "MAX_LENGTH"), (196, .class_ 628), (0, u "java/lang/StringUTF16$CodePointsSpliterator"), (0, .class_ 630), (0, u "java/lang/StringUTF16$CharsSpliterator")] 4

def k8m0 : Method := { name := "<init>", desc := "()V", sig := { parameters := [], returnType := none }, accessFlags := 0, code := none }
def k8c1 : Code := { maxStack := 1, maxLocals := 1, code := jdk_52_method_2_code, exceptionTable := #[], attributes := #[] }
def k8m1 : Method := { name := "newBytesFor", desc := "(I)[B", sig := { parameters := [.int], returnType := some (.array .byte) }, accessFlags := 9, code := some k8c1 }
def k8c2 : Code := { maxStack := 4, maxLocals := 1, code := jdk_52_method_3_code, exceptionTable := #[], attributes := #[] }
def k8m2 : Method := { name := "newBytesLength", desc := "(I)I", sig := { parameters := [.int], returnType := some .int }, accessFlags := 9, code := some k8c2 }
def k8c3 : Code := { maxStack := 4, maxLocals := 3, code := jdk_52_method_4_code, exceptionTable := #[], attributes := #[] }
def k8m3 : Method := { name := "putChar", desc := "([BII)V", sig := { parameters := [(.array .byte), .int, .int], returnType := none }, accessFlags := 8, code := some k8c3 }
def k8c4 : Code := { maxStack := 3, maxLocals := 2, code := jdk_52_method_5_code, exceptionTable := #[], attributes := #[] }
def k8m4 : Method := { name := "getChar", desc := "([BI)C", sig := { parameters := [(.array .byte), .int], returnType := some .char }, accessFlags := 8, code := some k8c4 }
def k8c5 : Code := { maxStack := 4, maxLocals := 5, code := jdk_52_method_14_code, exceptionTable := #[], attributes := #[] }
def k8m5 : Method := { name := "toBytes", desc := "([CII)[B", sig := { parameters := [(.array .char), .int, .int], returnType := some (.array .byte) }, accessFlags := 9, code := some k8c5 }
def k8c6 : Code := { maxStack := 2, maxLocals := 2, code := jdk_52_method_15_code, exceptionTable := #[], attributes := #[] }
def k8m6 : Method := { name := "coderFromArrayLen", desc := "([BI)B", sig := { parameters := [(.array .byte), .int], returnType := some .byte }, accessFlags := 8, code := some k8c6 }
def k8c7 : Code := { maxStack := 5, maxLocals := 6, code := jdk_52_method_16_code, exceptionTable := #[], attributes := #[] }
def k8m7 : Method := { name := "compress", desc := "([CII)[B", sig := { parameters := [(.array .char), .int, .int], returnType := some (.array .byte) }, accessFlags := 9, code := some k8c7 }
def k8c8 : Code := { maxStack := 3, maxLocals := 7, code := jdk_52_method_21_code, exceptionTable := #[], attributes := #[] }
def k8m8 : Method := { name := "compress", desc := "([CI[BII)I", sig := { parameters := [(.array .char), .int, (.array .byte), .int, .int], returnType := some .int }, accessFlags := 9, code := some k8c8 }
/-- java/lang/StringUTF16 -/
def k8 : Class := { plain "java/lang/StringUTF16" (some 0) with
  accessFlags := 48
  interfaces := #[]
  cf := some (fileOf pool8 12 #[.nestMembers #[627, 629, 369]] #[{ accessFlags := 0, nameIndex := 9, descriptorIndex := 10, attributes := #[] }, { accessFlags := 9, nameIndex := 109, descriptorIndex := 110, attributes := #[] }, { accessFlags := 9, nameIndex := 15, descriptorIndex := 16, attributes := #[] }, { accessFlags := 8, nameIndex := 113, descriptorIndex := 114, attributes := #[] }, { accessFlags := 8, nameIndex := 73, descriptorIndex := 74, attributes := #[] }, { accessFlags := 9, nameIndex := 121, descriptorIndex := 122, attributes := #[] }, { accessFlags := 8, nameIndex := 261, descriptorIndex := 262, attributes := #[] }, { accessFlags := 9, nameIndex := 117, descriptorIndex := 122, attributes := #[] }, { accessFlags := 9, nameIndex := 117, descriptorIndex := 118, attributes := #[] }] 48 6 #[] #[{ accessFlags := 26, nameIndex := 61, descriptorIndex := 62, attributes := #[] }, { accessFlags := 26, nameIndex := 65, descriptorIndex := 62, attributes := #[] }, { accessFlags := 24, nameIndex := 430, descriptorIndex := 62, attributes := #[] }, { accessFlags := 4120, nameIndex := 46, descriptorIndex := 47, attributes := #[] }])
  fields := #[{ name := "HI_BYTE_SHIFT", type := .int, accessFlags := 26, slot := 0, constantValue := 0 }, { name := "LO_BYTE_SHIFT", type := .int, accessFlags := 26, slot := 1, constantValue := 0 }, { name := "MAX_LENGTH", type := .int, accessFlags := 24, slot := 2, constantValue := 0 }, { name := "$assertionsDisabled", type := .boolean, accessFlags := 4120, slot := 3, constantValue := 0 }]
  methods := #[k8m0, k8m1, k8m2, k8m3, k8m4, k8m5, k8m6, k8m7, k8m8]
  instanceTypes := #[]
  staticTypes := #[.int, .int, .int, .boolean]
  resolved := Array.replicate 635 none
  statics := some 1 }

def pool9 : Array CpInfo := pool [(2, .class_ 4), (1, u "java/lang/Object"), (0, u "<init>"), (0, u "()V"), (1, .class_ 10), (1, u "com/example/wenyi/wenyi/request/YonyouSignature"), (14, .string 26), (0, u "signature"), (6, .class_ 34), (0, u "java/lang/String"), (14, .methodref 33 50), (0, .nameAndType 51 52), (0, u "equals"), (0, u "(Ljava/lang/Object;)Z"), (153, u "isSigned"), (0, u "(Ljava/lang/String;)Z"), (0, u "SIGNATURE"), (0, u "Ljava/lang/String;"), (1, u "HMAC_SHA256")] 45

def k9m0 : Method := { name := "<init>", desc := "()V", sig := { parameters := [], returnType := none }, accessFlags := 2, code := none }
def k9c1 : Code := { maxStack := 2, maxLocals := 1, code := prog_9_method_4_code, exceptionTable := #[], attributes := #[] }
def k9m1 : Method := { name := "isSigned", desc := "(Ljava/lang/String;)Z", sig := { parameters := [(.object "java/lang/String")], returnType := some .boolean }, accessFlags := 9, code := some k9c1 }
/-- com/example/wenyi/wenyi/request/YonyouSignature -/
def k9 : Class := { plain "com/example/wenyi/wenyi/request/YonyouSignature" (some 0) with
  accessFlags := 33
  interfaces := #[]
  cf := some (fileOf pool9 8 #[] #[{ accessFlags := 2, nameIndex := 5, descriptorIndex := 6, attributes := #[] }, { accessFlags := 9, nameIndex := 206, descriptorIndex := 207, attributes := #[] }] 33 2 #[] #[{ accessFlags := 26, nameIndex := 208, descriptorIndex := 209, attributes := #[] }, { accessFlags := 26, nameIndex := 211, descriptorIndex := 209, attributes := #[] }])
  fields := #[{ name := "SIGNATURE", type := (.object "java/lang/String"), accessFlags := 26, slot := 0, constantValue := 0 }, { name := "HMAC_SHA256", type := (.object "java/lang/String"), accessFlags := 26, slot := 1, constantValue := 0 }]
  methods := #[k9m0, k9m1]
  instanceTypes := #[]
  staticTypes := #[(.object "java/lang/String"), (.object "java/lang/String")]
  resolved := Array.replicate 257 none
  statics := none }

def pool10 : Array CpInfo := pool [(4, .class_ 6), (1, u "java/lang/Object"), (0, u "<init>"), (0, u "()V"), (5, .class_ 16), (1, u "java/lang/StringLatin1"), (104, u "$assertionsDisabled"), (0, u "Z"), (98, .class_ 223), (1, u "java/lang/StringLatin1$LinesSpliterator"), (57, u "equals"), (0, u "([B[B)Z"), (107, .class_ 391), (0, u "java/lang/StringLatin1$CharsSpliterator")] 3

def k10m0 : Method := { name := "<init>", desc := "()V", sig := { parameters := [], returnType := none }, accessFlags := 0, code := none }
def k10c1 : Code := { maxStack := 3, maxLocals := 3, code := jdk_43_method_13_code, exceptionTable := #[], attributes := #[] }
def k10m1 : Method := { name := "equals", desc := "([B[B)Z", sig := { parameters := [(.array .byte), (.array .byte)], returnType := some .boolean }, accessFlags := 9, code := some k10c1 }
/-- java/lang/StringLatin1 -/
def k10 : Class := { plain "java/lang/StringLatin1" (some 0) with
  accessFlags := 48
  interfaces := #[]
  cf := some (fileOf pool10 14 #[.nestMembers #[390, 221]] #[{ accessFlags := 0, nameIndex := 7, descriptorIndex := 8, attributes := #[] }, { accessFlags := 9, nameIndex := 281, descriptorIndex := 282, attributes := #[] }] 48 4 #[] #[{ accessFlags := 4120, nameIndex := 121, descriptorIndex := 122, attributes := #[] }])
  fields := #[{ name := "$assertionsDisabled", type := .boolean, accessFlags := 4120, slot := 0, constantValue := 0 }]
  methods := #[k10m0, k10m1]
  instanceTypes := #[]
  staticTypes := #[.boolean]
  resolved := Array.replicate 395 none
  statics := none }

def pool11 : Array CpInfo := pool [(2, .class_ 4), (1, u "java/lang/Object"), (0, u "<init>"), (0, u "()V"), (17, .class_ 26), (1, u "jdk/internal/util/Preconditions"), (28, .class_ 56), (0, u "jdk/internal/util/Preconditions$4"), (57, .class_ 115), (0, u "jdk/internal/util/Preconditions$1"), (7, u "SIOOBE_FORMATTER"), (0, u "Ljava/util/function/BiFunction;"), (0, .class_ 126), (0, u "jdk/internal/util/Preconditions$2"), (3, u "AIOOBE_FORMATTER"), (0, .class_ 132), (0, u "jdk/internal/util/Preconditions$3"), (3, u "IOOBE_FORMATTER")] 57

def k11m0 : Method := { name := "<init>", desc := "()V", sig := { parameters := [], returnType := none }, accessFlags := 1, code := none }
/-- jdk/internal/util/Preconditions -/
def k11 : Class := { plain "jdk/internal/util/Preconditions" (some 0) with
  accessFlags := 33
  interfaces := #[]
  cf := some (fileOf pool11 24 #[.nestMembers #[55, 131, 125, 114]] #[{ accessFlags := 1, nameIndex := 5, descriptorIndex := 6, attributes := #[] }] 33 2 #[] #[{ accessFlags := 25, nameIndex := 123, descriptorIndex := 124, attributes := #[] }, { accessFlags := 25, nameIndex := 130, descriptorIndex := 124, attributes := #[] }, { accessFlags := 25, nameIndex := 136, descriptorIndex := 124, attributes := #[] }])
  fields := #[{ name := "SIOOBE_FORMATTER", type := (.object "java/util/function/BiFunction"), accessFlags := 25, slot := 0, constantValue := 0 }, { name := "AIOOBE_FORMATTER", type := (.object "java/util/function/BiFunction"), accessFlags := 25, slot := 1, constantValue := 0 }, { name := "IOOBE_FORMATTER", type := (.object "java/util/function/BiFunction"), accessFlags := 25, slot := 2, constantValue := 0 }]
  methods := #[k11m0]
  instanceTypes := #[]
  staticTypes := #[(.object "java/util/function/BiFunction"), (.object "java/util/function/BiFunction"), (.object "java/util/function/BiFunction")]
  resolved := Array.replicate 194 none
  statics := some 2 }

def pool12 : Array CpInfo := pool [(9, u "<init>"), (6, .class_ 18), (1, u "java/lang/Object"), (0, u "()V"), (1, .class_ 23), (1, u "jdk/internal/util/ArraysSupport"), (0, u "LOG2_ARRAY_LONG_INDEX_SCALE"), (0, u "I"), (2, u "U"), (0, u "Ljdk/internal/misc/Unsafe;"), (8, u "BIG_ENDIAN"), (0, u "Z"), (8, u "LOG2_BYTE_BIT_SIZE"), (4, u "LOG2_ARRAY_INT_INDEX_SCALE"), (54, u "JLA"), (0, u "Ljdk/internal/access/JavaLangAccess;"), (11, u "LOG2_ARRAY_BOOLEAN_INDEX_SCALE"), (9, u "LOG2_ARRAY_BYTE_INDEX_SCALE"), (5, u "LOG2_ARRAY_CHAR_INDEX_SCALE"), (5, u "LOG2_ARRAY_SHORT_INDEX_SCALE"), (18, u "LOG2_ARRAY_FLOAT_INDEX_SCALE"), (24, u "LOG2_ARRAY_DOUBLE_INDEX_SCALE"), (89, u "T_BOOLEAN"), (2, u "T_CHAR"), (1, u "T_FLOAT"), (1, u "T_DOUBLE"), (1, u "T_BYTE"), (1, u "T_SHORT"), (1, u "T_INT"), (1, u "T_LONG"), (1, u "SOFT_MAX_ARRAY_LENGTH")] 83

def k12m0 : Method := { name := "<init>", desc := "()V", sig := { parameters := [], returnType := none }, accessFlags := 2, code := none }
/-- jdk/internal/util/ArraysSupport -/
def k12 : Class := { plain "jdk/internal/util/ArraysSupport" (some 0) with
  accessFlags := 33
  interfaces := #[]
  cf := some (fileOf pool12 21 #[] #[{ accessFlags := 2, nameIndex := 9, descriptorIndex := 19, attributes := #[] }] 33 16 #[] #[{ accessFlags := 24, nameIndex := 28, descriptorIndex := 29, attributes := #[] }, { accessFlags := 26, nameIndex := 38, descriptorIndex := 39, attributes := #[] }, { accessFlags := 25, nameIndex := 121, descriptorIndex := 25, attributes := #[] }, { accessFlags := 25, nameIndex := 131, descriptorIndex := 25, attributes := #[] }, { accessFlags := 25, nameIndex := 137, descriptorIndex := 25, attributes := #[] }, { accessFlags := 25, nameIndex := 143, descriptorIndex := 25, attributes := #[] }, { accessFlags := 25, nameIndex := 53, descriptorIndex := 25, attributes := #[] }, { accessFlags := 25, nameIndex := 24, descriptorIndex := 25, attributes := #[] }, { accessFlags := 25, nameIndex := 162, descriptorIndex := 25, attributes := #[] }, { accessFlags := 25, nameIndex := 187, descriptorIndex := 25, attributes := #[] }, { accessFlags := 26, nameIndex := 48, descriptorIndex := 25, attributes := #[] }, { accessFlags := 25, nameIndex := 277, descriptorIndex := 25, attributes := #[] }, { accessFlags := 25, nameIndex := 280, descriptorIndex := 25, attributes := #[] }, { accessFlags := 25, nameIndex := 282, descriptorIndex := 25, attributes := #[] }, { accessFlags := 25, nameIndex := 284, descriptorIndex := 25, attributes := #[] }, { accessFlags := 25, nameIndex := 286, descriptorIndex := 25, attributes := #[] }, { accessFlags := 25, nameIndex := 288, descriptorIndex := 25, attributes := #[] }, { accessFlags := 25, nameIndex := 290, descriptorIndex := 25, attributes := #[] }, { accessFlags := 25, nameIndex := 292, descriptorIndex := 25, attributes := #[] }, { accessFlags := 26, nameIndex := 108, descriptorIndex := 109, attributes := #[] }, { accessFlags := 25, nameIndex := 294, descriptorIndex := 25, attributes := #[] }])
  fields := #[{ name := "U", type := (.object "jdk/internal/misc/Unsafe"), accessFlags := 24, slot := 0, constantValue := 0 }, { name := "BIG_ENDIAN", type := .boolean, accessFlags := 26, slot := 1, constantValue := 0 }, { name := "LOG2_ARRAY_BOOLEAN_INDEX_SCALE", type := .int, accessFlags := 25, slot := 2, constantValue := 0 }, { name := "LOG2_ARRAY_BYTE_INDEX_SCALE", type := .int, accessFlags := 25, slot := 3, constantValue := 0 }, { name := "LOG2_ARRAY_CHAR_INDEX_SCALE", type := .int, accessFlags := 25, slot := 4, constantValue := 0 }, { name := "LOG2_ARRAY_SHORT_INDEX_SCALE", type := .int, accessFlags := 25, slot := 5, constantValue := 0 }, { name := "LOG2_ARRAY_INT_INDEX_SCALE", type := .int, accessFlags := 25, slot := 6, constantValue := 0 }, { name := "LOG2_ARRAY_LONG_INDEX_SCALE", type := .int, accessFlags := 25, slot := 7, constantValue := 0 }, { name := "LOG2_ARRAY_FLOAT_INDEX_SCALE", type := .int, accessFlags := 25, slot := 8, constantValue := 0 }, { name := "LOG2_ARRAY_DOUBLE_INDEX_SCALE", type := .int, accessFlags := 25, slot := 9, constantValue := 0 }, { name := "LOG2_BYTE_BIT_SIZE", type := .int, accessFlags := 26, slot := 10, constantValue := 0 }, { name := "T_BOOLEAN", type := .int, accessFlags := 25, slot := 11, constantValue := 0 }, { name := "T_CHAR", type := .int, accessFlags := 25, slot := 12, constantValue := 0 }, { name := "T_FLOAT", type := .int, accessFlags := 25, slot := 13, constantValue := 0 }, { name := "T_DOUBLE", type := .int, accessFlags := 25, slot := 14, constantValue := 0 }, { name := "T_BYTE", type := .int, accessFlags := 25, slot := 15, constantValue := 0 }, { name := "T_SHORT", type := .int, accessFlags := 25, slot := 16, constantValue := 0 }, { name := "T_INT", type := .int, accessFlags := 25, slot := 17, constantValue := 0 }, { name := "T_LONG", type := .int, accessFlags := 25, slot := 18, constantValue := 0 }, { name := "JLA", type := (.object "jdk/internal/access/JavaLangAccess"), accessFlags := 26, slot := 19, constantValue := 0 }, { name := "SOFT_MAX_ARRAY_LENGTH", type := .int, accessFlags := 25, slot := 20, constantValue := 0 }]
  methods := #[k12m0]
  instanceTypes := #[]
  staticTypes := #[(.object "jdk/internal/misc/Unsafe"), .boolean, .int, .int, .int, .int, .int, .int, .int, .int, .int, .int, .int, .int, .int, .int, .int, .int, .int, (.object "jdk/internal/access/JavaLangAccess"), .int]
  resolved := Array.replicate 378 none
  statics := none }

def pool13 : Array CpInfo := pool [(1, u "java/lang/Cloneable"), (0, .class_ 1), (0, u "java/lang/Object"), (0, .class_ 3)] 3

/-- java/lang/Cloneable -/
def k13 : Class := { plain "java/lang/Cloneable" (some 0) with
  accessFlags := 1537
  interfaces := #[]
  cf := some (fileOf pool13 2 #[] #[] 1537 4 #[] #[])
  fields := #[]
  methods := #[]
  instanceTypes := #[]
  staticTypes := #[]
  resolved := Array.replicate 8 none
  statics := none }

/-- the primitive byte -/
def k14 : Class := { plain "byte" none with kind := .primitive 'B', accessFlags := 0x411 }
/-- [B -/
def k15 : Class := { plain "[B" (some 0) with kind := .array 14 .byte, interfaces := #[13, 2], accessFlags := 1041 }

/-- the primitive char -/
def k16 : Class := { plain "char" none with kind := .primitive 'C', accessFlags := 0x411 }
/-- [C -/
def k17 : Class := { plain "[C" (some 0) with kind := .array 16 .char, interfaces := #[13, 2], accessFlags := 1041 }

/-- the primitive int -/
def k18 : Class := { plain "int" none with kind := .primitive 'I', accessFlags := 0x411 }
/-- [I -/
def k19 : Class := { plain "[I" (some 0) with kind := .array 18 .int, interfaces := #[13, 2], accessFlags := 1041 }

def heap : Heap := #[{ cls := 7, slots := #[.long 0, .int 1, .null, .int 0, .null, .int 0, .int 0], vm := .statics 7 },
  { cls := 8, slots := #[.int 0, .int 8, .int 0, .int 1], vm := .statics 8 },
  { cls := 11, slots := #[.null, .null, .null], vm := .statics 11 }]
def classes : Array Class := #[k0, k1, k2, k3, k4, k5, k6, k7, k8, k9, k10, k11, k12, k13, k14, k15, k16, k17, k18, k19]
def interned : List (Array UInt16 × Addr) := []
def slotsUsed : Nat := 14
def theMethod : MethodId := ⟨1, 2⟩
def args0 : Array Value := #[.long 1, .long 2, .long 3, .int 4]
def aboutOver (below : List Frame) : State where
  vm := { classes := classes, interned := interned.toArray }
  heap := heap
  slotsUsed := slotsUsed
  threads := #[{ frames := .invoking theMethod args0 :: below }]
def below0 : List Frame := [.native { method := ⟨0, 0⟩, args := #[] }]
def about1 : State := aboutOver below0
def p0 : Program := .bare "" "" ""
def e0 : Env := launch0.env 0 0 0
theorem w_frames : about1.frames = Frame.invoking theMethod args0 :: below0 := rfl
set_option maxRecDepth 65536 in
theorem w_args : argsFit about1.vm theMethod args0 = true := by decide +kernel
set_option maxRecDepth 65536 in
theorem w_heap : heapFits about1 = true := by decide +kernel
set_option maxRecDepth 65536 in
theorem w_runnable : about1.curStatus? = some .runnable := by decide +kernel
set_option maxRecDepth 65536 in
theorem w_alone : about1.alone = true := by decide +kernel
set_option maxRecDepth 65536 in
theorem w_named : about1.methodNamed? x = some theMethod := by decide +kernel
set_option maxRecDepth 65536 in
theorem w_hears : about1.hears theMethod below0 = true := by decide +kernel
set_option maxRecDepth 65536 in
theorem w_ripe : about1.ripe theMethod args0 below0 = true := by decide +kernel
theorem w_running : about1.status = .running := rfl
set_option maxRecDepth 65536 in
theorem w_room : about1.hasRoom e0.platform room_1 = true :=
  launch0.hasRoom_least _ room_1 (by decide +kernel) (by decide +kernel) (by decide +kernel) (by decide +kernel) (by decide +kernel) (by decide +kernel)
theorem allAtoms_all (ts : List Jvm.Cond) (a : Array Jvm.Value) (st : Jvm.State) : (allAtoms ts).before a st = ts.all (fun c => c.before a st) := by
  induction ts with
  | nil => rfl
  | cons c t ih =>
    show (Jvm.Cond.and c (allAtoms t)).before a st = _
    rw [Jvm.Cond.before_and, ih, List.all_cons]
def words1 : List Jvm.Cond := Jvm.Cond.code x code maxLocals ret :: tables_1
/-- a 'code' word, met by the world's own term for the bytes: nothing is compared byte by byte -/
theorem code_word {y : MethodName} {bytes : ByteArray} {mx : Nat} {rt : Option FieldType} {a : Array Value} {s : State} {m : MethodId} {meth : Method} {c : Code} (h1 : s.methodNamed? y = some m) (h2 : s.vm.method? m = some meth) (h3 : meth.code = some c) (h4 : c.code = bytes)
    (h5 : (c.maxLocals == mx && c.exceptionTable.isEmpty && decide (c.maxStack ≤ mostOperands) && decide (meth.sig.returnType = rt) && !meth.locks && decide (parseMethodDescriptor y.desc = some meth.sig)) = true) : (Jvm.Cond.code y bytes mx rt).before a s = true := by
  simp only [Bool.and_eq_true, beq_iff_eq, Bool.not_eq_true', decide_eq_true_eq] at h5
  obtain ⟨⟨⟨⟨⟨g1, g2⟩, g3⟩, g4⟩, g5⟩, g6⟩ := h5
  simp [Cond.before, Cond.holds, Cond.value, h1, h2, h3, h4, g1, g2, g3, g4, g5, g6]
def isCode : Jvm.Cond → Bool
  | .code _ _ _ _ => true
  | _ => false
theorem all_split {L : List Jvm.Cond} {P : Jvm.Cond → Bool} (h1 : L.all (fun c => isCode c || P c) = true) (h2 : ∀ c ∈ L.filter isCode, P c = true) : L.all P = true := by
  refine List.all_eq_true.mpr fun c hc => ?_
  have h := List.all_eq_true.mp h1 c hc
  rcases Bool.eq_false_or_eq_true (isCode c) with hi | hi
  · exact h2 c (List.mem_filter.mpr ⟨hc, hi⟩)
  · simpa [hi] using h
set_option maxRecDepth 65536 in
theorem w_c0 : (Jvm.Cond.code x code maxLocals ret).before args0 about1 = true := code_word (m := ⟨1, 2⟩) (meth := k1m2) (c := k1c2) (by decide +kernel) rfl rfl rfl (by decide +kernel)
set_option maxRecDepth 65536 in
theorem w_c1 : (Jvm.Cond.code ({ cls := "com/example/wenyi/wenyi/request/YonyouSignatureIsSignedPinLaw", name := "ch", desc := "(JIC)C" } : Jvm.MethodName) method_2_code (4 : Nat) (Option.some Jvm.ClassFile.FieldType.char)).before args0 about1 = true := code_word (m := ⟨1, 1⟩) (meth := k1m1) (c := k1c1) (by decide +kernel) rfl rfl rfl (by decide +kernel)
set_option maxRecDepth 65536 in
theorem w_c2 : (Jvm.Cond.code ({ cls := "java/lang/String", name := "<init>", desc := "([C)V" } : Jvm.MethodName) jdk_42_method_3_code (2 : Nat) (Option.none : Option Jvm.ClassFile.FieldType)).before args0 about1 = true := code_word (m := ⟨7, 1⟩) (meth := k7m1) (c := k7c1) (by decide +kernel) rfl rfl rfl (by decide +kernel)
set_option maxRecDepth 65536 in
theorem w_c3 : (Jvm.Cond.code ({ cls := "java/lang/String", name := "<init>", desc := "([CIILjava/lang/Void;)V" } : Jvm.MethodName) jdk_42_method_149_code (6 : Nat) (Option.none : Option Jvm.ClassFile.FieldType)).before args0 about1 = true := code_word (m := ⟨7, 3⟩) (meth := k7m3) (c := k7c3) (by decide +kernel) rfl rfl rfl (by decide +kernel)
set_option maxRecDepth 65536 in
theorem w_c4 : (Jvm.Cond.code ({ cls := "java/lang/Object", name := "<init>", desc := "()V" } : Jvm.MethodName) object_method_1_code (1 : Nat) (Option.none : Option Jvm.ClassFile.FieldType)).before args0 about1 = true := code_word (m := ⟨0, 0⟩) (meth := k0m0) (c := k0c0) (by decide +kernel) rfl rfl rfl (by decide +kernel)
set_option maxRecDepth 65536 in
theorem w_c5 : (Jvm.Cond.code ({ cls := "java/lang/StringUTF16", name := "compress", desc := "([CII)[B" } : Jvm.MethodName) jdk_52_method_16_code (6 : Nat) (Option.some (Jvm.ClassFile.FieldType.array Jvm.ClassFile.FieldType.byte))).before args0 about1 = true := code_word (m := ⟨8, 7⟩) (meth := k8m7) (c := k8c7) (by decide +kernel) rfl rfl rfl (by decide +kernel)
set_option maxRecDepth 65536 in
theorem w_c6 : (Jvm.Cond.code ({ cls := "java/lang/StringUTF16", name := "compress", desc := "([CI[BII)I" } : Jvm.MethodName) jdk_52_method_21_code (7 : Nat) (Option.some Jvm.ClassFile.FieldType.int)).before args0 about1 = true := code_word (m := ⟨8, 8⟩) (meth := k8m8) (c := k8c8) (by decide +kernel) rfl rfl rfl (by decide +kernel)
set_option maxRecDepth 65536 in
theorem w_c7 : (Jvm.Cond.code ({ cls := "java/lang/StringUTF16", name := "coderFromArrayLen", desc := "([BI)B" } : Jvm.MethodName) jdk_52_method_15_code (2 : Nat) (Option.some Jvm.ClassFile.FieldType.byte)).before args0 about1 = true := code_word (m := ⟨8, 6⟩) (meth := k8m6) (c := k8c6) (by decide +kernel) rfl rfl rfl (by decide +kernel)
set_option maxRecDepth 65536 in
theorem w_c8 : (Jvm.Cond.code ({ cls := "com/example/wenyi/wenyi/request/YonyouSignature", name := "isSigned", desc := "(Ljava/lang/String;)Z" } : Jvm.MethodName) prog_9_method_4_code (1 : Nat) (Option.some Jvm.ClassFile.FieldType.boolean)).before args0 about1 = true := code_word (m := ⟨9, 1⟩) (meth := k9m1) (c := k9c1) (by decide +kernel) rfl rfl rfl (by decide +kernel)
set_option maxRecDepth 65536 in
theorem w_c9 : (Jvm.Cond.code ({ cls := "java/lang/String", name := "equals", desc := "(Ljava/lang/Object;)Z" } : Jvm.MethodName) jdk_42_method_66_code (3 : Nat) (Option.some Jvm.ClassFile.FieldType.boolean)).before args0 about1 = true := code_word (m := ⟨7, 2⟩) (meth := k7m2) (c := k7c2) (by decide +kernel) rfl rfl rfl (by decide +kernel)
set_option maxRecDepth 65536 in
theorem w_c10 : (Jvm.Cond.code ({ cls := "java/lang/StringLatin1", name := "equals", desc := "([B[B)Z" } : Jvm.MethodName) jdk_43_method_13_code (3 : Nat) (Option.some Jvm.ClassFile.FieldType.boolean)).before args0 about1 = true := code_word (m := ⟨10, 1⟩) (meth := k10m1) (c := k10c1) (by decide +kernel) rfl rfl rfl (by decide +kernel)
set_option maxRecDepth 65536 in
theorem w_c11 : (Jvm.Cond.code ({ cls := "java/lang/StringUTF16", name := "toBytes", desc := "([CII)[B" } : Jvm.MethodName) jdk_52_method_14_code (5 : Nat) (Option.some (Jvm.ClassFile.FieldType.array Jvm.ClassFile.FieldType.byte))).before args0 about1 = true := code_word (m := ⟨8, 5⟩) (meth := k8m5) (c := k8c5) (by decide +kernel) rfl rfl rfl (by decide +kernel)
set_option maxRecDepth 65536 in
theorem w_c12 : (Jvm.Cond.code ({ cls := "java/lang/StringUTF16", name := "newBytesFor", desc := "(I)[B" } : Jvm.MethodName) jdk_52_method_2_code (1 : Nat) (Option.some (Jvm.ClassFile.FieldType.array Jvm.ClassFile.FieldType.byte))).before args0 about1 = true := code_word (m := ⟨8, 1⟩) (meth := k8m1) (c := k8c1) (by decide +kernel) rfl rfl rfl (by decide +kernel)
set_option maxRecDepth 65536 in
theorem w_c13 : (Jvm.Cond.code ({ cls := "java/lang/StringUTF16", name := "newBytesLength", desc := "(I)I" } : Jvm.MethodName) jdk_52_method_3_code (1 : Nat) (Option.some Jvm.ClassFile.FieldType.int)).before args0 about1 = true := code_word (m := ⟨8, 2⟩) (meth := k8m2) (c := k8c2) (by decide +kernel) rfl rfl rfl (by decide +kernel)
set_option maxRecDepth 65536 in
theorem w_c14 : (Jvm.Cond.code ({ cls := "java/lang/StringUTF16", name := "putChar", desc := "([BII)V" } : Jvm.MethodName) jdk_52_method_4_code (3 : Nat) (Option.none : Option Jvm.ClassFile.FieldType)).before args0 about1 = true := code_word (m := ⟨8, 3⟩) (meth := k8m3) (c := k8c3) (by decide +kernel) rfl rfl rfl (by decide +kernel)
set_option maxRecDepth 65536 in
theorem w_c15 : (Jvm.Cond.code ({ cls := "java/lang/StringUTF16", name := "getChar", desc := "([BI)C" } : Jvm.MethodName) jdk_52_method_5_code (2 : Nat) (Option.some Jvm.ClassFile.FieldType.char)).before args0 about1 = true := code_word (m := ⟨8, 4⟩) (meth := k8m4) (c := k8c4) (by decide +kernel) rfl rfl rfl (by decide +kernel)
def codes1 : List Jvm.Cond := [Jvm.Cond.code x code maxLocals ret, Jvm.Cond.code ({ cls := "com/example/wenyi/wenyi/request/YonyouSignatureIsSignedPinLaw", name := "ch", desc := "(JIC)C" } : Jvm.MethodName) method_2_code (4 : Nat) (Option.some Jvm.ClassFile.FieldType.char), Jvm.Cond.code ({ cls := "java/lang/String", name := "<init>", desc := "([C)V" } : Jvm.MethodName) jdk_42_method_3_code (2 : Nat) (Option.none : Option Jvm.ClassFile.FieldType), Jvm.Cond.code ({ cls := "java/lang/String", name := "<init>", desc := "([CIILjava/lang/Void;)V" } : Jvm.MethodName) jdk_42_method_149_code (6 : Nat) (Option.none : Option Jvm.ClassFile.FieldType), Jvm.Cond.code ({ cls := "java/lang/Object", name := "<init>", desc := "()V" } : Jvm.MethodName) object_method_1_code (1 : Nat) (Option.none : Option Jvm.ClassFile.FieldType), Jvm.Cond.code ({ cls := "java/lang/StringUTF16", name := "compress", desc := "([CII)[B" } : Jvm.MethodName) jdk_52_method_16_code (6 : Nat) (Option.some (Jvm.ClassFile.FieldType.array Jvm.ClassFile.FieldType.byte)), Jvm.Cond.code ({ cls := "java/lang/StringUTF16", name := "compress", desc := "([CI[BII)I" } : Jvm.MethodName) jdk_52_method_21_code (7 : Nat) (Option.some Jvm.ClassFile.FieldType.int), Jvm.Cond.code ({ cls := "java/lang/StringUTF16", name := "coderFromArrayLen", desc := "([BI)B" } : Jvm.MethodName) jdk_52_method_15_code (2 : Nat) (Option.some Jvm.ClassFile.FieldType.byte), Jvm.Cond.code ({ cls := "com/example/wenyi/wenyi/request/YonyouSignature", name := "isSigned", desc := "(Ljava/lang/String;)Z" } : Jvm.MethodName) prog_9_method_4_code (1 : Nat) (Option.some Jvm.ClassFile.FieldType.boolean), Jvm.Cond.code ({ cls := "java/lang/String", name := "equals", desc := "(Ljava/lang/Object;)Z" } : Jvm.MethodName) jdk_42_method_66_code (3 : Nat) (Option.some Jvm.ClassFile.FieldType.boolean), Jvm.Cond.code ({ cls := "java/lang/StringLatin1", name := "equals", desc := "([B[B)Z" } : Jvm.MethodName) jdk_43_method_13_code (3 : Nat) (Option.some Jvm.ClassFile.FieldType.boolean), Jvm.Cond.code ({ cls := "java/lang/StringUTF16", name := "toBytes", desc := "([CII)[B" } : Jvm.MethodName) jdk_52_method_14_code (5 : Nat) (Option.some (Jvm.ClassFile.FieldType.array Jvm.ClassFile.FieldType.byte)), Jvm.Cond.code ({ cls := "java/lang/StringUTF16", name := "newBytesFor", desc := "(I)[B" } : Jvm.MethodName) jdk_52_method_2_code (1 : Nat) (Option.some (Jvm.ClassFile.FieldType.array Jvm.ClassFile.FieldType.byte)), Jvm.Cond.code ({ cls := "java/lang/StringUTF16", name := "newBytesLength", desc := "(I)I" } : Jvm.MethodName) jdk_52_method_3_code (1 : Nat) (Option.some Jvm.ClassFile.FieldType.int), Jvm.Cond.code ({ cls := "java/lang/StringUTF16", name := "putChar", desc := "([BII)V" } : Jvm.MethodName) jdk_52_method_4_code (3 : Nat) (Option.none : Option Jvm.ClassFile.FieldType), Jvm.Cond.code ({ cls := "java/lang/StringUTF16", name := "getChar", desc := "([BI)C" } : Jvm.MethodName) jdk_52_method_5_code (2 : Nat) (Option.some Jvm.ClassFile.FieldType.char)]
set_option maxRecDepth 65536 in
theorem codes_eq : words1.filter isCode = codes1 := rfl
theorem w_codes : ∀ c ∈ words1.filter isCode, c.before args0 about1 = true := by
  rw [codes_eq]
  intro c hc
  simp only [codes1, List.mem_cons, List.not_mem_nil, or_false] at hc
  rcases hc with rfl | rfl | rfl | rfl | rfl | rfl | rfl | rfl | rfl | rfl | rfl | rfl | rfl | rfl | rfl | rfl
  · exact w_c0
  · exact w_c1
  · exact w_c2
  · exact w_c3
  · exact w_c4
  · exact w_c5
  · exact w_c6
  · exact w_c7
  · exact w_c8
  · exact w_c9
  · exact w_c10
  · exact w_c11
  · exact w_c12
  · exact w_c13
  · exact w_c14
  · exact w_c15
set_option maxRecDepth 65536 in
theorem w_t1 : (words1.take 24).all (fun c => isCode c || c.before args0 about1) = true := by decide +kernel
set_option maxRecDepth 65536 in
theorem w_t2 : ((words1.drop 24).take 24).all (fun c => isCode c || c.before args0 about1) = true := by decide +kernel
set_option maxRecDepth 65536 in
theorem w_t3 : (((words1.drop 24).drop 24).take 24).all (fun c => isCode c || c.before args0 about1) = true := by decide +kernel
set_option maxRecDepth 65536 in
theorem w_t4 : (((words1.drop 24).drop 24).drop 24).all (fun c => isCode c || c.before args0 about1) = true := by decide +kernel
theorem w_tables : (allAtoms (Jvm.Cond.code x code maxLocals ret :: tables_1)).before args0 about1 = true := by
  rw [allAtoms_all]
  show words1.all (fun c => c.before args0 about1) = true
  refine all_split ?_ w_codes
  rw [← List.take_append_drop 24 words1, List.all_append, w_t1, ← List.take_append_drop 24 (words1.drop 24), List.all_append, w_t2, ← List.take_append_drop 24 ((words1.drop 24).drop 24), List.all_append, w_t3, w_t4]
  rfl
set_option maxRecDepth 65536 in
theorem w_rest : rest_1_c.before args0 about1 = true := by decide +kernel
set_option maxRecDepth 65536 in
theorem w_case : (Jvm.Cond.and given_1 narrow_1).before args0 about1 = true := by decide +kernel
set_option maxRecDepth 65536 in
theorem w_consts : constsHeld consts_1 about1 := Jvm.Lit.constsHeldB_iff.mp (by decide +kernel)
theorem w_applies : (headSpec (Jvm.Cond.code x code maxLocals ret :: tables_1) room_1).applies x e0.platform about1 = true :=
  (Spec.applies_iff w_frames).mpr ⟨w_running, w_runnable, w_alone, w_named, w_hears, w_ripe, w_room, w_tables⟩
theorem atStart : AtStart classFile x code maxLocals ret World_1 tables_1 room_1 Calls_1 rest_1 Pre_1 launch0 p0 e0 about1 theMethod args0 below0 :=
  ⟨lists_1, trivial, launch0.admits_env _ _ _, launch0.least_env, fairChoices_fair.cas, fairChoices_fair.clock, w_frames, w_args, w_heap, w_applies, ⟨w_consts, trivial⟩, w_rest, w_case⟩
end start1
theorem witness_1 : WitnessClaimed_1 := ⟨start1.p0, start1.e0, start1.about1, start1.theMethod, start1.args0, start1.below0, start1.atStart⟩
end Jvm.Pilot.@@N@@
